/-
  Seat b6614385aF: what the reader says of a slice of strings, of bools, as the walks want it; the program's closed facts for the rows.
-/
import Derived.Test.Qxb6614385aFmtW6
import Derived.ProofKit
import Derived.SizedLaws
import Derived.Deep.Grids
import Derived.Stop.JoinedAt
import Derived.Stop.JoinedTold
import Derived.SevenToldRow
namespace Go.Proofs.Qxb6614385aFmt
open Go.ChangeShapes Go.WideShapes Go.ChangeAt Go.RowKit Go.Deep
open Go.Extern.Stop Go.Stop Go.Extern

theorem Tryf.own : ownKnob Tryf.prog.godebug = none := by kernel_rfl
theorem Tryf.laidOut : laidOutB Tryf.pinned.checked.prog = true := by kernel_rfl
theorem Tryf.cells9 : Tryf.prog.cellsOf 9 = 1 := by kernel_rfl
theorem Tryf.bytes9 : Tryf.prog.bytesOf 9 = 16 := by kernel_rfl
theorem Tryf.cells4 : Tryf.prog.cellsOf 4 = 1 := by kernel_rfl
theorem Tryf.bytes4 : Tryf.prog.bytesOf 4 = 1 := by kernel_rfl
theorem Tryf.stops : Tryf.pinned.checked.prog.stops = ["fmt.errorf"] := by kernel_rfl
theorem Tryf.stopKnobs : Tryf.pinned.checked.prog.stopKnobs = [] := by kernel_rfl
theorem Tryf.quiet (os : Os) : Stop.quiet Tryf.pinned.checked.prog os := by
  intro k hk
  rw [Tryf.stopKnobs] at hk
  cases hk

theorem sv_nil (w : World) (c : Nat) : SV w none 0 c 0 0 [] :=
  ⟨⟨rfl, (fun _ _ h => absurd h (by omega)), (fun _ _ h => by simp at h), (fun h => absurd h (by omega)), by omega, (fun _ => rfl), (fun h => absurd h (by omega))⟩, (fun _ h => absurd h (by simp))⟩
theorem bv_nil (w : World) (c : Nat) : BV w none 0 c 0 0 [] :=
  ⟨rfl, (fun _ _ h => absurd h (by omega)), (fun _ _ h => by simp at h), (fun h => absurd h (by omega)), by omega, (fun _ => rfl), (fun h => absurd h (by omega))⟩

theorem sv_open {H : Type} {enc : TypeId × Value → H} {W : World} {d : DataW H} {p : List MemPlace} {a0 : Option Addr} {len cap fuel : Nat}
    (hf : DataW.trod enc Tryf.prog W 0 (fun _ => true) true fuel 22 (Value.cells (.slice a0 len cap)).toList = some (d, p)) (hlt : ∀ x ∈ p, x.block < W.heap.size)
    (hreach : ∀ es sp, d = .slice es sp → (es.length + sp.length) * Tryf.prog.bytesOf 9 ≤ reachBytes) : ∃ b off ss, SV W a0 len cap b off ss := by
  rcases open_strings Tryf.underlying22 Tryf.underlying9 Tryf.cells9 hf with ⟨hcs, hx⟩ | ⟨a, len', cap', ss, hcs, _, hl, hm, hz, hx, hcell, hws⟩
  · simp [Value.cells] at hcs
    obtain ⟨rfl, rfl, rfl⟩ := hcs
    exact ⟨0, 0, [], sv_nil _ _⟩
  · simp [Value.cells] at hcs
    obtain ⟨rfl, rfl, rfl⟩ := hcs
    simp only [Prod.mk.injEq] at hx
    obtain ⟨rfl, rfl⟩ := hx
    simp only [if_true] at hz
    have hr := hreach _ _ rfl
    rw [Tryf.bytes9] at hr
    simp only [strs, List.length_map, List.length_take, List.length_drop, reachBytes] at hr
    have htl : (ss.take len).length = len := by rw [List.length_take]; omega
    by_cases hl0 : len = 0
    · subst hl0
      exact ⟨0, 0, [], ⟨rfl, (fun _ _ h => absurd h (by omega)), (fun _ _ h => by simp at h), (fun h => absurd h (by omega)), by omega, (fun h => by cases h), (fun h => absurd h (by omega))⟩, (fun _ h => absurd h (by simp))⟩
    · obtain ⟨b, off, spot⟩ := a
      have hspot : spot = none := by simpa [Addr.add] using World.cell?_spot (hcell 0 (by omega))
      subst hspot
      have hbW : b < W.heap.size := hlt (.cell b off) (MemPlace.mem_row.2 ⟨0, by omega, by simp⟩)
      refine ⟨b, off, ss.take len, ⟨by rw [List.length_map]; exact htl, fun k w hk => idx22 b off len cap k w hk, fun k v hk => ?_, fun _ => hbW, by omega, (fun h => by cases h), fun _ => rfl⟩, fun s hs => hws s (List.mem_of_mem_take hs)⟩
      have hkl : k < len := by
        have := (List.getElem?_eq_some_iff.1 hk).1
        rw [List.length_map, htl] at this
        exact this
      have := hcell k (by omega)
      rw [add_plain] at this
      rw [this, ← hk, List.getElem?_map, List.getElem?_take_of_lt hkl, List.getD, List.getElem?_eq_getElem (by omega)]
      rfl

theorem bv_open {H : Type} {enc : TypeId × Value → H} {W : World} {d : DataW H} {p : List MemPlace} {a0 : Option Addr} {len cap fuel : Nat}
    (hf : DataW.trod enc Tryf.prog W 0 (fun _ => true) true fuel 23 (Value.cells (.slice a0 len cap)).toList = some (d, p)) (hlt : ∀ x ∈ p, x.block < W.heap.size)
    (hreach : ∀ es sp, d = .slice es sp → (es.length + sp.length) * Tryf.prog.bytesOf 4 ≤ reachBytes) : ∃ b off ss, BV W a0 len cap b off ss := by
  rcases open_bools Tryf.underlying23 Tryf.underlying4 Tryf.cells4 hf with ⟨hcs, hx⟩ | ⟨a, len', cap', B, hcs, _, hl, hm, hx, hcell⟩
  · simp [Value.cells] at hcs
    obtain ⟨rfl, rfl, rfl⟩ := hcs
    exact ⟨0, 0, [], bv_nil _ _⟩
  · simp [Value.cells] at hcs
    obtain ⟨rfl, rfl, rfl⟩ := hcs
    simp only [Prod.mk.injEq] at hx
    obtain ⟨rfl, rfl⟩ := hx
    have hr := hreach _ _ rfl
    rw [Tryf.bytes4] at hr
    simp only [List.length_map, List.length_range, reachBytes] at hr
    by_cases hl0 : len = 0
    · subst hl0
      exact ⟨0, 0, [], rfl, (fun _ _ h => absurd h (by omega)), (fun _ _ h => by simp at h), (fun h => absurd h (by omega)), by omega, (fun h => by cases h), (fun h => absurd h (by omega))⟩
    · obtain ⟨b, off, spot⟩ := a
      have hspot : spot = none := by simpa [Addr.add] using World.cell?_spot (hcell 0 (by omega))
      subst hspot
      have hbW : b < W.heap.size := hlt (.cell b off) (MemPlace.mem_row.2 ⟨0, by omega, by simp⟩)
      refine ⟨b, off, (List.range len).map B, by simp, fun k w hk => idx23 b off len cap k w hk, fun k v hk => ?_, fun _ => hbW, by omega, (fun h => by cases h), fun _ => rfl⟩
      have hkl : k < len := by
        have := (List.getElem?_eq_some_iff.1 hk).1
        simpa using this
      have := hcell k (by omega)
      rw [add_plain] at this
      rw [this, ← hk]
      simp [hkl]

end Go.Proofs.Qxb6614385aFmt
