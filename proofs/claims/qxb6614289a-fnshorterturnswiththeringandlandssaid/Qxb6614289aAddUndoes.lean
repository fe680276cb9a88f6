/-
  Seat b6614289a: the first row, proved.
-/
import Derived.Test.Qxb6614289aV2
import Derived.ProofKit
import Derived.Laws.IdiomArrays
namespace Go.Proofs.Qxb6614289a
open Go.ChangeShapes Go.WideShapes Go.ChangeAt Go.RowKit

theorem Try.own : ownKnob Try.prog.godebug = none := by kernel_rfl
theorem Try.laidOut : laidOutB Try.prog = true := by kernel_rfl
theorem Try.cells24 : Try.prog.cellsOf 24 = 4 := by kernel_rfl

theorem list4 {α : Type} (l : List α) (h : (⟨l⟩ : Array α).size = 4) : ∃ a b c d, l = [a, b, c, d] := by
  match l, h with
  | [a, b, c, d], _ => exact ⟨a, b, c, d, rfl⟩

theorem word_of_wf {x : Int} (h : (Lit.int .u64 x).wf = true) : Word x := by
  simp [Lit.wf, IntKind.min, IntKind.max, IntKind.signed, IntKind.bits] at h
  exact ⟨by omega, by omega⟩

/-- An array of four words is the words of a number. -/
theorem arr_open {H : Type} {enc : TypeId × Value → H} {W : World} {base : Nat} {v : Value} {d : DataW H} {p : List MemPlace} (hok : Value.okWide Try.prog W .any base 24 v)
    (h : DataW.Trod enc Try.prog W 0 (fun _ => true) true 24 v d p) : ∃ n, Big n ∧ v = .agg #[.int .u64 (wd0 n), .int .u64 (wd1 n), .int .u64 (wd2 n), .int .u64 (wd3 n)] := by
  obtain ⟨cs, rfl, hsz, _⟩ : ∃ cs, v = .agg cs ∧ cs.size = Try.prog.cellsOf 24 ∧ Row.okWide Try.prog W .any base 24 cs := by
    simpa [Value.okWide, Try.underlying24] using hok
  rw [Try.cells24] at hsz
  obtain ⟨l⟩ := cs
  obtain ⟨c0, c1, c2, c3, rfl⟩ := list4 l hsz
  obtain ⟨fuel, hf⟩ := h
  obtain ⟨y0, y1, y2, y3, m, hx, hy0, hy1, hy2, hy3⟩ := trod_array4 Try.underlying24 cells23 hf
  obtain ⟨x0, e0, rfl, w0⟩ := DataW.trod_int Try.underlying23 hy0
  obtain ⟨x1, e1, rfl, w1⟩ := DataW.trod_int Try.underlying23 hy1
  obtain ⟨x2, e2, rfl, w2⟩ := DataW.trod_int Try.underlying23 hy2
  obtain ⟨x3, e3, rfl, w3⟩ := DataW.trod_int Try.underlying23 hy3
  simp at e0 e1 e2 e3
  subst e0 e1 e2 e3
  obtain ⟨n, hn, r0, r1, r2, r3⟩ := words_of (word_of_wf w0) (word_of_wf w1) (word_of_wf w2) (word_of_wf w3)
  exact ⟨n, hn, by rw [r0, r1, r2, r3]⟩

theorem law1_any {S : Int} {a b : Nat} {w : World} (h0 : 0 ≤ S) (ha : Big a) (hb : Big b) :
    Calls Try.prog 3 #[.int .u64 S, .agg #[.int .u64 (wd0 a), .int .u64 (wd1 a), .int .u64 (wd2 a), .int .u64 (wd3 a)], .agg #[.int .u64 (wd0 b), .int .u64 (wd1 b), .int .u64 (wd2 b), .int .u64 (wd3 b)]] w fun e w' => e = .returned (.bool true) ∧ Below w.heap.size w w' := by
  by_cases h1 : S ≤ 159
  · obtain ⟨m, hS, hM, m1, m2⟩ := big_S S h0 h1
    cases da : decide (lowN a 160 = a)
    · exact law1_offa h1 ha da
    · cases db : decide (lowN b 160 = b)
      · exact law1_offb h1 ha hb da db
      · exact law1_on hS hM m1 m2 h0 h1 ha hb da db
  · exact law1_far (by omega)

set_option maxRecDepth 100000 in
theorem addUndoes_lifted (os : Os) (started : os.Started) (H : Type) (enc : TypeId × Value → H) :
    ReturnsInHanded {} Try.checked os 3 .any (Rows.fnAddUndoesArcsBothWaysSpec.pre6 enc Try.prog Try.f3 Rows.fnAddUndoesArcsBothWaysRow.domain false) (Rows.fnAddUndoesArcsBothWaysSpec.post enc Try.prog Try.f3 false true false false) := by
  refine returnsInHanded_of_change (C := Try.checked) Try.own started (by kernel_rfl) Try.func3
    (ChangeSpec.witness6 (enc := enc) (C := Try.checked) false ⟨#[], #[.int .u64 0, .agg #[.int .u64 0, .int .u64 0, .int .u64 0, .int .u64 0], .agg #[.int .u64 0, .int .u64 0, .int .u64 0, .int .u64 0]], []⟩ 8 (by kernel_rfl) (by kernel_rfl) (by kernel_rfl) (by kernel_rfl)) ?_
  intro W base args ds gs before hval0 hW _ _
  have hval : ∀ (j : Nat) t v, Try.f3.params[j]? = some t → args[j]? = some v → Value.okWide Try.prog W .any base t v := hval0
  have hW' := hW
  obtain ⟨p, q, hA0, hV, rfl, _, _⟩ := hW
  have hA : DataW.TrodAll enc Try.prog W 0 (fun _ => true) true Try.f3.params.toList args.toList ds p := hA0
  rw [Try.params3] at hA hval
  obtain ⟨v0, v1, v2, d0, d1, d2, p0, p1, p2, rfl, rfl, rfl, h0, h1, h2⟩ := trodAll_three hA
  obtain ⟨rfl, rfl⟩ := trodVars_none hV
  have h0k := h0
  have h1k := h1
  have h2k := h2
  obtain ⟨S, rfl, _, _, wS⟩ := open_int Try.underlying22 (hval 0 22 v0 rfl rfl) h0
  obtain ⟨a, ha, rfl⟩ := arr_open (hval 1 24 v1 rfl rfl) h1
  obtain ⟨b, hb, rfl⟩ := arr_open (hval 2 24 v2 rfl rfl) h2
  clear hA0 hval0
  simp only [List.append_nil] at hW'
  have hlt : ∀ x ∈ p0 ++ p1 ++ p2, x.block < W.heap.size := fun x hx => by simpa using hW'.lt x hx
  have hlt0 : ∀ x ∈ p0, x.block < W.heap.size := fun x hx => hlt x (by simp [hx])
  have hlt1 : ∀ x ∈ p1, x.block < W.heap.size := fun x hx => hlt x (by simp [hx])
  have hlt2 : ∀ x ∈ p2, x.block < W.heap.size := fun x hx => hlt x (by simp [hx])
  refine (law1_any (word_of_wf wS).1 ha hb).mono fun e W' ⟨he, hnx⟩ => ?_
  subst he
  refine ⟨_, rfl, _, _, _, [], p0 ++ (p1 ++ p2), [], hW', ?_, ?_, rfl, hnx.frame _, fun h => by cases h⟩
  · exact trodAll_mk1 (shut_bool Try.underlying4 true)
  · exact trodAll_mk3 (Below.trod Try.laidOut (by kernel_rfl) (of_decide_eq_true (by kernel_rfl)) h0k hnx hlt0) (Below.trod Try.laidOut (by kernel_rfl) (of_decide_eq_true (by kernel_rfl)) h1k hnx hlt1) (Below.trod Try.laidOut (by kernel_rfl) (of_decide_eq_true (by kernel_rfl)) h2k hnx hlt2)

theorem addUndoes_holds : Rows.FnAddUndoesArcsBothWaysSaid :=
  OpenClaim.holds_of_wide 3 Try.f3 rfl rfl rfl rfl rfl rfl rfl ⟨rfl, rfl, rfl, rfl, rfl⟩ rfl rfl rfl rfl rfl (by kernel_rfl) Try.func3 (by kernel_rfl)
    (of_decide_eq_true (by kernel_rfl)) (by unfold Func.isWrapper; first | (rw [if_pos (by decide +kernel)]; kernel_rfl) | (rw [if_neg (by decide +kernel)]; exact ⟨rfl, rfl⟩))
    (fun os started H enc _ => addUndoes_lifted os started H enc)

end Go.Proofs.Qxb6614289a
