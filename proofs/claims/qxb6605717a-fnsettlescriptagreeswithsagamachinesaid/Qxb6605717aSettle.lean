/-
  Seat b6605717a: the row, proved.
-/
import Derived.Test.Qxb6605717aW6
import Derived.Test.Qxb6605717aW4b
import Derived.Test.Qxb6605717aOpen
namespace Go.Proofs.Qxb6605717a
open Go.ChangeShapes Go.WideShapes Go.ChangeAt Go.RowKit

theorem law_any {w : World} {a1 : Option Addr} {n c1 b1 off1 : Nat} {hc : Nat → Bool} {a2 : Option Addr} {m c2 b2 off2 : Nat} {cl : Nat → Int} {sn : Nat → Bool}
    (h1 : BV w a1 n c1 b1 off1 hc) (h2 : PV w a2 m c2 b2 off2 cl sn) :
    Calls Try.prog 3 #[.slice a1 n c1, .slice a2 m c2] w fun e w' => e = .returned (.bool true) ∧ Below w.heap.size w w' := by
  by_cases hn : n ≤ 4096
  rotate_left
  · exact law_e1 h1.small h2.small hn
  by_cases hm : m ≤ 4096
  rotate_left
  · exact law_e2 h1.small h2.small hn hm
  exact law_main h1 h2 hn hm

set_option maxRecDepth 100000 in
theorem settle_lifted (os : Os) (started : os.Started) (H : Type) (enc : TypeId × Value → H) :
    ReturnsInHanded {} Try.checked os 3 .any (Rows.fnSettleScriptAgreesWithSagaMachineSpec.pre6 enc Try.prog Try.f3 Rows.fnSettleScriptAgreesWithSagaMachineRow.domain false) (Rows.fnSettleScriptAgreesWithSagaMachineSpec.post enc Try.prog Try.f3 false true false false) := by
  refine returnsInHanded_of_change_sized (C := Try.checked) Try.own started (by kernel_rfl) Try.func3
    (ChangeSpec.witness6 (enc := enc) (C := Try.checked) false ⟨#[], #[.slice none 0 0, .slice none 0 0], []⟩ 8 (by kernel_rfl) (by kernel_rfl) (by kernel_rfl) (by kernel_rfl)) ?_
  intro W base args ds gs before hval0 hW _ hsz _
  have hval : ∀ (j : Nat) t v, Try.f3.params[j]? = some t → args[j]? = some v → Value.okWide Try.prog W .any base t v := hval0
  have hW' := hW
  obtain ⟨p, q, hA0, hV, rfl, _, _⟩ := hW
  have hA : DataW.TrodAll enc Try.prog W 0 (fun _ => true) true Try.f3.params.toList args.toList ds p := hA0
  rw [Try.params3] at hA hval
  obtain ⟨v0, v1, d0, d1, p0, p1, rfl, rfl, rfl, h0, h1⟩ := trodAll_two hA
  obtain ⟨rfl, rfl⟩ := trodVars_none hV
  obtain ⟨a0, n0, c0, rfl⟩ := okWide_slice Try.underlying22 (hval 0 22 v0 rfl rfl)
  obtain ⟨a1, n1, c1, rfl⟩ := okWide_slice Try.underlying23 (hval 1 23 v1 rfl rfl)
  have h0k := h0
  have h1k := h1
  obtain ⟨fuel0, hf0⟩ := h0
  obtain ⟨fuel1, hf1⟩ := h1
  clear hA0 hval0
  simp only [List.append_nil] at hW'
  have hlt : ∀ x ∈ p0 ++ p1, x.block < W.heap.size := fun x hx => by simpa using hW'.lt x hx
  have hlt0 : ∀ x ∈ p0, x.block < W.heap.size := fun x hx => hlt x (List.mem_append_left _ hx)
  have hlt1 : ∀ x ∈ p1, x.block < W.heap.size := fun x hx => hlt x (List.mem_append_right _ hx)
  obtain ⟨b0, o0, hc, s0⟩ := bv_open hf0 hlt0 (fun es sp e => by subst e; exact sized_slice hsz (j := 0) (t := 22) (e := 4) rfl rfl Try.underlying22)
  obtain ⟨b1, o1, cl, sn, s1⟩ := pv_open hf1 hlt1 (fun es sp e => by subst e; exact sized_slice hsz (j := 1) (t := 23) (e := 45) rfl rfl Try.underlying23)
  refine (law_any s0 s1).mono fun e W' ⟨he, hnx⟩ => ?_
  subst he
  refine ⟨_, rfl, _, _, _, [], p0 ++ p1, [], hW', ?_, ?_, rfl, hnx.frame _, fun h => by cases h⟩
  · exact trodAll_mk1 (shut_bool Try.underlying4 true)
  · exact trodAll_mk2 (Below.trod Try.laidOut (by kernel_rfl) (of_decide_eq_true (by kernel_rfl)) h0k hnx hlt0) (Below.trod Try.laidOut (by kernel_rfl) (of_decide_eq_true (by kernel_rfl)) h1k hnx hlt1)

theorem settle_holds : Rows.FnSettleScriptAgreesWithSagaMachineSaid :=
  OpenClaim.holds_of_wide 3 Try.f3 rfl rfl rfl rfl rfl rfl rfl ⟨rfl, rfl, rfl, rfl, rfl⟩ rfl rfl rfl rfl rfl (by kernel_rfl) Try.func3 (by kernel_rfl)
    (of_decide_eq_true (by kernel_rfl)) (by unfold Func.isWrapper; first | (rw [if_pos (by decide +kernel)]; kernel_rfl) | (rw [if_neg (by decide +kernel)]; exact ⟨rfl, rfl⟩))
    (fun os started H enc _ => settle_lifted os started H enc)

end Go.Proofs.Qxb6605717a
