/-
  Seat b6614191a: the first row, proved.
-/
import Derived.Test.Qxb6614191aW5
import Derived.ProofKit
import Derived.SizedLaws
namespace Go.Proofs.Qxb6614191a
open Go.ChangeShapes Go.WideShapes Go.ChangeAt Go.RowKit

theorem Try.own : ownKnob Try.prog.godebug = none := by kernel_rfl
theorem Try.laidOut : laidOutB Try.prog = true := by kernel_rfl
theorem Try.cells9 : Try.prog.cellsOf 9 = 1 := by kernel_rfl
theorem Try.bytes9 : Try.prog.bytesOf 9 = 16 := by kernel_rfl

theorem idx_ok (b off len cap k : Nat) (w : World) (h : k < len) : (Instr.indexAt 22 (.slice (some ⟨b, off, none⟩) len cap) (.int .i64 (k : Int))).run Try.prog w = .ok (.pointer (some ⟨b, off + k, none⟩)) w := by
  have h1 : (0 : Int) ≤ (k : Int) ∧ (k : Int) < (len : Int) := ⟨by omega, by omega⟩
  have h2 : (sizeOf 9).run Try.prog w = .ok 1 w := by kernel_rfl
  have h3 : Try.prog.elem 22 = 9 := by simp [Program.elem, Try.underlying22]
  rw [run_indexAt_slice _ _ _ _ _ _ _ (by rw [h3]; exact Try.underlying22), if_pos h1, h3, h2]
  simp [Result.andThen, Addr.add]

/-- What the reader says of a slice of strings, as the walks want it. -/
theorem sv_open {H : Type} {enc : TypeId × Value → H} {W : World} {d : DataW H} {p : List MemPlace} {a0 : Option Addr} {len cap fuel : Nat}
    (hf : DataW.trod enc Try.prog W 0 (fun _ => true) true fuel 22 (Value.cells (.slice a0 len cap)).toList = some (d, p)) (hlt : ∀ x ∈ p, x.block < W.heap.size)
    (hreach : ∀ es sp, d = .slice es sp → (es.length + sp.length) * Try.prog.bytesOf 9 ≤ reachBytes) : ∃ b off ss, SV W a0 len cap b off ss := by
  rcases open_strings Try.underlying22 Try.underlying9 Try.cells9 hf with ⟨hcs, hx⟩ | ⟨a, len', cap', ss, hcs, _, hl, hm, hz, hx, hcell, hws⟩
  · simp [Value.cells] at hcs
    obtain ⟨rfl, rfl, rfl⟩ := hcs
    exact ⟨0, 0, [], SV.ofNil _ _⟩
  · simp [Value.cells] at hcs
    obtain ⟨rfl, rfl, rfl⟩ := hcs
    simp only [Prod.mk.injEq] at hx
    obtain ⟨rfl, rfl⟩ := hx
    simp only [if_true] at hz
    have hr := hreach _ _ rfl
    rw [Try.bytes9] at hr
    simp only [strs, List.length_map, List.length_take, List.length_drop, reachBytes] at hr
    have htl : (ss.take len).length = len := by rw [List.length_take]; omega
    by_cases hl0 : len = 0
    · subst hl0
      exact ⟨0, 0, [], rfl, fun _ _ h => absurd h (by omega), fun _ h => absurd h (by omega), fun h => absurd h (by omega), fun _ h => absurd h (by simp), by omega, fun h => by cases h⟩
    · obtain ⟨b, off, spot⟩ := a
      have hspot : spot = none := by simpa [Addr.add] using World.cell?_spot (hcell 0 (by omega))
      subst hspot
      have hbW : b < W.heap.size := hlt (.cell b off) (MemPlace.mem_row.2 ⟨0, by omega, by simp⟩)
      refine ⟨b, off, ss.take len, htl, fun k w hk => idx_ok b off len cap k w hk, fun k hk => ?_, fun _ => hbW, fun s hs => hws s (List.mem_of_mem_take hs), by omega, fun h => by cases h⟩
      have := hcell k (by omega)
      rw [add_plain] at this
      rw [this, List.getD, List.getD, List.getElem?_take_of_lt hk]

set_option maxRecDepth 100000 in
theorem union_lifted (os : Os) (started : os.Started) (H : Type) (enc : TypeId × Value → H) :
    ReturnsInHanded {} Try.checked os 3 .any (Rows.fnMarkOverwrittenMarksExactlyTheUnionSpec.pre6 enc Try.prog Try.f3 Rows.fnMarkOverwrittenMarksExactlyTheUnionRow.domain false) (Rows.fnMarkOverwrittenMarksExactlyTheUnionSpec.post enc Try.prog Try.f3 false true false false) := by
  refine returnsInHanded_of_change_sized (C := Try.checked) Try.own started (by kernel_rfl) Try.func3
    (ChangeSpec.witness6 (enc := enc) (C := Try.checked) false ⟨#[], #[.slice none 0 0, .slice none 0 0], []⟩ 8 (by kernel_rfl) (by kernel_rfl) (by kernel_rfl) (by kernel_rfl)) ?_
  intro W base args ds gs before hval0 hW _ hsz0 _
  have hsz : (DataW.weightsEach Try.prog (Try.f3.params.toList ++ Rows.fnMarkOverwrittenMarksExactlyTheUnionSpec.plain.varTypes Try.prog) (ds ++ gs)).all (· ≤ reachBytes) = true := hsz0
  clear hsz0
  have hval : ∀ (j : Nat) t v, Try.f3.params[j]? = some t → args[j]? = some v → Value.okWide Try.prog W .any base t v := hval0
  have hW' := hW
  obtain ⟨p, q, hA0, hV, rfl, _, _⟩ := hW
  have hA : DataW.TrodAll enc Try.prog W 0 (fun _ => true) true Try.f3.params.toList args.toList ds p := hA0
  rw [Try.params3] at hA hval hsz
  obtain ⟨v0, v1, d0, d1, p0, p1, rfl, rfl, rfl, h0, h1⟩ := trodAll_two hA
  obtain ⟨rfl, rfl⟩ := trodVars_none hV
  obtain ⟨a0, n0, c0, rfl⟩ := okWide_slice Try.underlying22 (hval 0 22 v0 rfl rfl)
  obtain ⟨a1, n1, c1, rfl⟩ := okWide_slice Try.underlying22 (hval 1 22 v1 rfl rfl)
  have h0k := h0
  have h1k := h1
  obtain ⟨fuel0, hf0⟩ := h0
  obtain ⟨fuel1, hf1⟩ := h1
  clear hA0 hval0
  simp only [List.append_nil] at hW'
  have hlt : ∀ x ∈ p0 ++ p1, x.block < W.heap.size := fun x hx => by simpa using hW'.lt x hx
  have hlt0 : ∀ x ∈ p0, x.block < W.heap.size := fun x hx => hlt x (List.mem_append_left _ hx)
  have hlt1 : ∀ x ∈ p1, x.block < W.heap.size := fun x hx => hlt x (List.mem_append_right _ hx)
  obtain ⟨b0, o0, ss0, s0⟩ := sv_open hf0 hlt0 (fun es sp e => by subst e; exact sized_slice hsz (j := 0) (t := 22) (e := 9) rfl rfl Try.underlying22)
  obtain ⟨b1, o1, ss1, s1⟩ := sv_open hf1 hlt1 (fun es sp e => by subst e; exact sized_slice hsz (j := 1) (t := 22) (e := 9) rfl rfl Try.underlying22)
  refine (law1_any s0 s1).mono fun e W' ⟨he, hnx⟩ => ?_
  subst he
  refine ⟨_, rfl, _, _, _, [], p0 ++ p1, [], hW', ?_, ?_, rfl, hnx.frame _, fun h => by cases h⟩
  · exact trodAll_mk1 (shut_bool Try.underlying4 true)
  · exact trodAll_mk2 (Below.trod Try.laidOut (by kernel_rfl) (of_decide_eq_true (by kernel_rfl)) h0k hnx hlt0) (Below.trod Try.laidOut (by kernel_rfl) (of_decide_eq_true (by kernel_rfl)) h1k hnx hlt1)

theorem union_holds : Rows.FnMarkOverwrittenMarksExactlyTheUnionSaid :=
  OpenClaim.holds_of_wide 3 Try.f3 rfl rfl rfl rfl rfl rfl rfl ⟨rfl, rfl, rfl, rfl, rfl⟩ rfl rfl rfl rfl rfl (by kernel_rfl) Try.func3 (by kernel_rfl)
    (of_decide_eq_true (by kernel_rfl)) (by unfold Func.isWrapper; first | (rw [if_pos (by decide +kernel)]; kernel_rfl) | (rw [if_neg (by decide +kernel)]; exact ⟨rfl, rfl⟩))
    (fun os started H enc _ => union_lifted os started H enc)

end Go.Proofs.Qxb6614191a
