/-
  Seat b6605717a: what the reader says of the two arguments, as the walks want it.
-/
import Derived.Test.Qxb6605717aW4
import Derived.ProofKit
import Derived.SizedLaws
import Derived.Deep.Grids
import Derived.Deep.SlicePairs
namespace Go.Proofs.Qxb6605717a
open Go.ChangeShapes Go.WideShapes Go.ChangeAt Go.RowKit Go.Deep

theorem Try.own : ownKnob Try.prog.godebug = none := by kernel_rfl
theorem Try.laidOut : laidOutB Try.prog = true := by kernel_rfl
theorem Try.cells4 : Try.prog.cellsOf 4 = 1 := by kernel_rfl
theorem Try.cells3 : Try.prog.cellsOf 3 = 1 := by kernel_rfl
theorem Try.cells45 : Try.prog.cellsOf 45 = 2 := by kernel_rfl
theorem Try.bytes4 : Try.prog.bytesOf 4 = 1 := by kernel_rfl
theorem Try.bytes45 : Try.prog.bytesOf 45 = 16 := by kernel_rfl

theorem idxB (b off len cap k : Nat) (w : World) (h : k < len) : (Instr.indexAt 22 (.slice (some ⟨b, off, none⟩) len cap) (.int .i64 (k : Int))).run Try.prog w = .ok (.pointer (some ⟨b, off + k, none⟩)) w := by
  have h1 : (0 : Int) ≤ (k : Int) ∧ (k : Int) < (len : Int) := ⟨by omega, by omega⟩
  have h2 : (sizeOf 4).run Try.prog w = .ok 1 w := by kernel_rfl
  have h3 : Try.prog.elem 22 = 4 := by simp [Program.elem, Try.underlying22]
  rw [run_indexAt_slice _ _ _ _ _ _ _ (by rw [h3]; exact Try.underlying22), if_pos h1, h3, h2]
  simp [Result.andThen, Addr.add]
theorem idxP (b off len cap k : Nat) (w : World) (h : k < len) : (Instr.indexAt 23 (.slice (some ⟨b, off, none⟩) len cap) (.int .i64 (k : Int))).run Try.prog w = .ok (.pointer (some ⟨b, off + 2 * k, none⟩)) w := by
  have h1 : (0 : Int) ≤ (k : Int) ∧ (k : Int) < (len : Int) := ⟨by omega, by omega⟩
  have h2 : (sizeOf 45).run Try.prog w = .ok 2 w := by kernel_rfl
  have h3 : Try.prog.elem 23 = 45 := by simp [Program.elem, Try.underlying23]
  rw [run_indexAt_slice _ _ _ _ _ _ _ (by rw [h3]; exact Try.underlying23), if_pos h1, h3, h2]
  have h4 : k * 2 = 2 * k := Nat.mul_comm _ _
  simp [Result.andThen, Addr.add]
  rw [h4]
  split
  · rename_i e0
    rw [e0]; rfl
  · rfl

theorem bv_open {H : Type} {enc : TypeId × Value → H} {W : World} {d : DataW H} {p : List MemPlace} {a0 : Option Addr} {len cap fuel : Nat}
    (hf : DataW.trod enc Try.prog W 0 (fun _ => true) true fuel 22 (Value.cells (.slice a0 len cap)).toList = some (d, p)) (hlt : ∀ x ∈ p, x.block < W.heap.size)
    (hreach : ∀ es sp, d = .slice es sp → (es.length + sp.length) * Try.prog.bytesOf 4 ≤ reachBytes) : ∃ b off hc, BV W a0 len cap b off hc := by
  rcases open_bools Try.underlying22 Try.underlying4 Try.cells4 hf with ⟨hcs, hx⟩ | ⟨a, len', cap', B, hcs, _, hl, hm, hx, hcell⟩
  · simp [Value.cells] at hcs
    obtain ⟨rfl, rfl, rfl⟩ := hcs
    exact ⟨0, 0, fun _ => false, (fun _ _ h => absurd h (by omega)), (fun _ h => absurd h (by omega)), (fun h => absurd h (by omega)), by omega⟩
  · simp [Value.cells] at hcs
    obtain ⟨rfl, rfl, rfl⟩ := hcs
    simp only [Prod.mk.injEq] at hx
    obtain ⟨rfl, rfl⟩ := hx
    have hr := hreach _ _ rfl
    rw [Try.bytes4] at hr
    simp only [List.length_map, List.length_range, reachBytes] at hr
    by_cases hl0 : len = 0
    · subst hl0
      exact ⟨0, 0, fun _ => false, (fun _ _ h => absurd h (by omega)), (fun _ h => absurd h (by omega)), (fun h => absurd h (by omega)), by omega⟩
    · obtain ⟨b, off, spot⟩ := a
      have hspot : spot = none := by simpa [Addr.add] using World.cell?_spot (hcell 0 (by omega))
      subst hspot
      have hbW : b < W.heap.size := hlt (.cell b off) (MemPlace.mem_row.2 ⟨0, by omega, by simp⟩)
      refine ⟨b, off, B, fun k w hk => idxB b off len cap k w hk, fun k hk => ?_, fun _ => hbW, by omega⟩
      have := hcell k (by omega)
      rw [add_plain] at this
      exact this

theorem pv_open {H : Type} {enc : TypeId × Value → H} {W : World} {d : DataW H} {p : List MemPlace} {a0 : Option Addr} {len cap fuel : Nat}
    (hf : DataW.trod enc Try.prog W 0 (fun _ => true) true fuel 23 (Value.cells (.slice a0 len cap)).toList = some (d, p)) (hlt : ∀ x ∈ p, x.block < W.heap.size)
    (hreach : ∀ es sp, d = .slice es sp → (es.length + sp.length) * Try.prog.bytesOf 45 ≤ reachBytes) : ∃ b off cl sn, PV W a0 len cap b off cl sn := by
  rcases open_slice_pairs Try.underlying23 Try.underlying45 Try.cells45 rfl rfl Try.cells3 Try.cells4 hf with ⟨hcs, hx⟩ | ⟨a, len', cap', m, n, V0, V1, D0, D1, P0, P1, hcs, _, hl, hm, hmm, hx, hcell⟩
  · simp [Value.cells] at hcs
    obtain ⟨rfl, rfl, rfl⟩ := hcs
    exact ⟨0, 0, fun _ => 0, fun _ => false, (fun _ _ h => absurd h (by omega)), (fun _ h => absurd h (by omega)), (fun _ h => absurd h (by omega)), (fun h => absurd h (by omega)), by omega⟩
  · simp [Value.cells] at hcs
    obtain ⟨rfl, rfl, rfl⟩ := hcs
    simp only [Prod.mk.injEq] at hx
    obtain ⟨rfl, rfl⟩ := hx
    simp only [if_true] at hmm
    subst hmm
    have hr := hreach _ _ rfl
    rw [Try.bytes45] at hr
    simp only [List.length_map, List.length_range, reachBytes] at hr
    by_cases hl0 : len = 0
    · subst hl0
      exact ⟨0, 0, fun _ => 0, fun _ => false, (fun _ _ h => absurd h (by omega)), (fun _ h => absurd h (by omega)), (fun _ h => absurd h (by omega)), (fun h => absurd h (by omega)), by omega⟩
    · obtain ⟨b, off, spot⟩ := a
      have hspot : spot = none := by simpa [Addr.add] using World.cell?_spot (hcell 0 (by omega)).1
      subst hspot
      have hbW : b < W.heap.size := hlt (.cell b off) (List.mem_append_left _ (MemPlace.mem_row.2 ⟨0, by omega, by simp⟩))
      have e0 : ∀ i, i < m → ∃ z, V0 i = .int .i64 z := fun i hi => by
        obtain ⟨z, h1, _⟩ := DataW.trod_int Try.underlying3 (hcell i hi).2.2.1
        exact ⟨z, by simpa using h1⟩
      have e1 : ∀ i, i < m → ∃ z, V1 i = .bool z := fun i hi => by
        obtain ⟨z, h1, _⟩ := DataW.trod_bool Try.underlying4 (hcell i hi).2.2.2
        exact ⟨z, by simpa using h1⟩
      obtain ⟨cl, hcl⟩ := choose_lt e0
      obtain ⟨sn, hsn⟩ := choose_lt e1
      refine ⟨b, off, cl, sn, fun k w hk => idxP b off len m k w hk, fun k hk => ?_, fun k hk => ?_, fun _ => hbW, by omega⟩
      · have := (hcell k (by omega)).1
        rw [add_plain, Nat.mul_comm k 2, hcl k (by omega)] at this
        exact this
      · have := (hcell k (by omega)).2.1
        rw [add_plain, Nat.mul_comm k 2, hsn k (by omega), ← Nat.add_assoc] at this
        exact this

end Go.Proofs.Qxb6605717a
