/-
  Seat b6614289a: the second row, proved.
-/
import Derived.Test.Qxb6614289aV3
import Derived.Test.Qxb6614289aAddUndoes
namespace Go.Proofs.Qxb6614289a
open Go.ChangeShapes Go.WideShapes Go.ChangeAt Go.RowKit

/-- The shift is past 159: true. -/
theorem law2_far {S : Int} {a b : Nat} {w : World} (h0 : 159 < S) :
    Calls Try.prog 4 #[.int .u64 S, .agg #[.int .u64 (wd0 a), .int .u64 (wd1 a), .int .u64 (wd2 a), .int .u64 (wd3 a)], .agg #[.int .u64 (wd0 b), .int .u64 (wd1 b), .int .u64 (wd2 b), .int .u64 (wd3 b)]] w fun e w' => e = .returned (.bool true) ∧ Below w.heap.size w w' := by
  go_enter Try.func4, Try.ntmps4
  go_wp2
  go_ret
  exact ⟨rfl, ((Below.refl _ _).alloc (Nat.le_refl _) _).alloc (by simp) _⟩

set_option maxRecDepth 100000 in
set_option maxHeartbeats 1000000 in
/-- a is not on the ring of 160 bits: true. -/
theorem law2_offa {S : Int} {a b : Nat} {w : World} (h1 : S ≤ 159) (ha : Big a) (da : decide (lowN a 160 = a) = false) :
    Calls Try.prog 4 #[.int .u64 S, .agg #[.int .u64 (wd0 a), .int .u64 (wd1 a), .int .u64 (wd2 a), .int .u64 (wd3 a)], .agg #[.int .u64 (wd0 b), .int .u64 (wd1 b), .int .u64 (wd2 b), .int .u64 (wd3 b)]] w fun e w' => e = .returned (.bool true) ∧ Below w.heap.size w w' := by
  go_enter Try.func4, Try.ntmps4
  go_wp2_with (go_at_call 6; refine (onRing_any h160 (by decide) (by decide) ha).mono ?_; rintro e w1 ⟨rfl, hb1⟩)
  go_ret
  exact ⟨rfl, below_call (ab_below w a b) hb1⟩

set_option maxRecDepth 100000 in
set_option maxHeartbeats 1000000 in
/-- b is not on the ring of 160 bits: true. -/
theorem law2_offb {S : Int} {a b : Nat} {w : World} (h1 : S ≤ 159) (ha : Big a) (hb : Big b) (da : decide (lowN a 160 = a) = true) (db : decide (lowN b 160 = b) = false) :
    Calls Try.prog 4 #[.int .u64 S, .agg #[.int .u64 (wd0 a), .int .u64 (wd1 a), .int .u64 (wd2 a), .int .u64 (wd3 a)], .agg #[.int .u64 (wd0 b), .int .u64 (wd1 b), .int .u64 (wd2 b), .int .u64 (wd3 b)]] w fun e w' => e = .returned (.bool true) ∧ Below w.heap.size w w' := by
  have t1 : True := trivial
  go_enter Try.func4, Try.ntmps4
  go_wp2_with (first
    | (go_at_call 6; have _u := t1; refine (onRing_any h160 (by decide) (by decide) ha).mono ?_; rintro e w1 ⟨rfl, hb1⟩; clear t1; obtain ⟨c0, c1, c2, c3⟩ := ((ab_b w a b).call hb1).c4)
    | (go_at_call 6; refine (onRing_any h160 (by decide) (by decide) hb).mono ?_; rintro e w2 ⟨rfl, hb2⟩))
  go_ret
  exact ⟨rfl, below_call (below_call (ab_below w a b) hb1) hb2⟩

theorem law2_any {S : Int} {a b : Nat} {w : World} (h0 : 0 ≤ S) (ha : Big a) (hb : Big b) :
    Calls Try.prog 4 #[.int .u64 S, .agg #[.int .u64 (wd0 a), .int .u64 (wd1 a), .int .u64 (wd2 a), .int .u64 (wd3 a)], .agg #[.int .u64 (wd0 b), .int .u64 (wd1 b), .int .u64 (wd2 b), .int .u64 (wd3 b)]] w fun e w' => e = .returned (.bool true) ∧ Below w.heap.size w w' := by
  by_cases h1 : S ≤ 159
  · obtain ⟨m, hS, hM, m1, m2⟩ := big_S S h0 h1
    cases da : decide (lowN a 160 = a)
    · exact law2_offa h1 ha da
    · cases db : decide (lowN b 160 = b)
      · exact law2_offb h1 ha hb da db
      · have k13a : Hid (∀ w, Calls Try.prog 13 #[.agg #[.int .u64 S], .agg #[.int .u64 (wd0 a), .int .u64 (wd1 a), .int .u64 (wd2 a), .int .u64 (wd3 a)], .agg #[.int .u64 (wd0 b), .int .u64 (wd1 b), .int .u64 (wd2 b), .int .u64 (wd3 b)]] w fun e w' => e = .returned (.int .i64 (dir a b m)) ∧ Below w.heap.size w w') := fun w => shorter_any hS m1 m2 ha hb
        have k13b : Hid (∀ w, Calls Try.prog 13 #[.agg #[.int .u64 S], .agg #[.int .u64 (wd0 b), .int .u64 (wd1 b), .int .u64 (wd2 b), .int .u64 (wd3 b)], .agg #[.int .u64 (wd0 a), .int .u64 (wd1 a), .int .u64 (wd2 a), .int .u64 (wd3 a)]] w fun e w' => e = .returned (.int .i64 (dir b a m)) ∧ Below w.heap.size w w') := fun w => shorter_any hS m1 m2 hb ha
        have k12 : Hid (∀ w, Calls Try.prog 12 #[.agg #[.int .u64 (wd0 (subN b a)), .int .u64 (wd1 (subN b a)), .int .u64 (wd2 (subN b a)), .int .u64 (wd3 (subN b a))], .int .i64 (160 - S)] w fun e w' => e = .returned (.agg #[.int .u64 (wd0 (lowN (subN b a) m)), .int .u64 (wd1 (lowN (subN b a) m)), .int .u64 (wd2 (lowN (subN b a) m)), .int .u64 (wd3 (lowN (subN b a) m))]) ∧ Below w.heap.size w w') := fun w => mask_any hM m1 m2
        have k16a : Hid (∀ w, Calls Try.prog 16 #[.agg #[.int .u64 (wd0 a), .int .u64 (wd1 a), .int .u64 (wd2 a), .int .u64 (wd3 a)], .agg #[.int .u64 (wd0 b), .int .u64 (wd1 b), .int .u64 (wd2 b), .int .u64 (wd3 b)], .int .i64 (160 - S)] w fun e w' => e = .returned (.int .i64 (dir a b m)) ∧ Below w.heap.size w w') := fun w => byHalf_any hM m1 m2 ha hb
        have k16b : Hid (∀ w, Calls Try.prog 16 #[.agg #[.int .u64 (wd0 b), .int .u64 (wd1 b), .int .u64 (wd2 b), .int .u64 (wd3 b)], .agg #[.int .u64 (wd0 a), .int .u64 (wd1 a), .int .u64 (wd2 a), .int .u64 (wd3 a)], .int .i64 (160 - S)] w fun e w' => e = .returned (.int .i64 (dir b a m)) ∧ Below w.heap.size w w') := fun w => byHalf_any hM m1 m2 hb ha
        have k15 : Hid (∀ w, Calls Try.prog 15 #[.int .i64 (160 - S)] w fun e w' => e = .returned (.agg #[.int .u64 (wd0 (halfN m)), .int .u64 (wd1 (halfN m)), .int .u64 (wd2 (halfN m)), .int .u64 (wd3 (halfN m))]) ∧ Below w.heap.size w w') := fun w => half_any hM m1 m2
        have hev := dir_even m1 (by omega) ha hb
        have hdd : (dir a b m == dir b a m) = decide (dir a b m = dir b a m) := rfl
        rw [← hdd] at hev
        have hd : Big (lowN (subN b a) m) := big_lowN m (big_subN b a)
        cases dz : decide (lowN (subN b a) m = 0)
        · rw [dz, Bool.false_or] at hev
          cases dn : decide (lowN (subN b a) m = halfN m)
          · rw [dn] at hev
            exact law2_else k13a k13b k12 k16a k16b hd h0 h1 ha hb da db k15 (big_halfN m2) dz dn hev.symm
          · rw [dn] at hev
            exact law2_half k13a k13b k12 k16a k16b hd h0 h1 ha hb da db k15 (big_halfN m2) dz dn hev.symm
        · rw [dz, Bool.true_or] at hev
          exact law2_zero k13a k13b k12 k16a k16b hd h0 h1 ha hb da db dz hev.symm
  · exact law2_far (by omega)

set_option maxRecDepth 100000 in
theorem shorterHalf_lifted (os : Os) (started : os.Started) (H : Type) (enc : TypeId × Value → H) :
    ReturnsInHanded {} Try.checked os 4 .any (Rows.fnShorterIsPastHalfRingAndFlipsSpec.pre6 enc Try.prog Try.f4 Rows.fnShorterIsPastHalfRingAndFlipsRow.domain false) (Rows.fnShorterIsPastHalfRingAndFlipsSpec.post enc Try.prog Try.f4 false true false false) := by
  refine returnsInHanded_of_change (C := Try.checked) Try.own started (by kernel_rfl) Try.func4
    (ChangeSpec.witness6 (enc := enc) (C := Try.checked) false ⟨#[], #[.int .u64 0, .agg #[.int .u64 0, .int .u64 0, .int .u64 0, .int .u64 0], .agg #[.int .u64 0, .int .u64 0, .int .u64 0, .int .u64 0]], []⟩ 8 (by kernel_rfl) (by kernel_rfl) (by kernel_rfl) (by kernel_rfl)) ?_
  intro W base args ds gs before hval0 hW _ _
  have hval : ∀ (j : Nat) t v, Try.f4.params[j]? = some t → args[j]? = some v → Value.okWide Try.prog W .any base t v := hval0
  have hW' := hW
  obtain ⟨p, q, hA0, hV, rfl, _, _⟩ := hW
  have hA : DataW.TrodAll enc Try.prog W 0 (fun _ => true) true Try.f4.params.toList args.toList ds p := hA0
  rw [Try.params4] at hA hval
  obtain ⟨v0, v1, v2, d0, d1, d2, p0, p1, p2, rfl, rfl, rfl, h0, h1, h2⟩ := trodAll_three hA
  obtain ⟨rfl, rfl⟩ := trodVars_none hV
  have h0k := h0
  have h1k := h1
  have h2k := h2
  obtain ⟨S, rfl, _, _, wS⟩ := open_int Try.underlying22 (hval 0 22 v0 rfl rfl) h0
  obtain ⟨a, ha, rfl⟩ := arr_open (hval 1 24 v1 rfl rfl) h1
  obtain ⟨b, hb, rfl⟩ := arr_open (hval 2 24 v2 rfl rfl) h2
  clear hA0 hval0
  simp only [List.append_nil] at hW'
  have hlt : ∀ x ∈ p0 ++ p1 ++ p2, x.block < W.heap.size := fun x hx => by simpa using hW'.lt x hx
  have hlt0 : ∀ x ∈ p0, x.block < W.heap.size := fun x hx => hlt x (by simp [hx])
  have hlt1 : ∀ x ∈ p1, x.block < W.heap.size := fun x hx => hlt x (by simp [hx])
  have hlt2 : ∀ x ∈ p2, x.block < W.heap.size := fun x hx => hlt x (by simp [hx])
  refine (law2_any (word_of_wf wS).1 ha hb).mono fun e W' ⟨he, hnx⟩ => ?_
  subst he
  refine ⟨_, rfl, _, _, _, [], p0 ++ (p1 ++ p2), [], hW', ?_, ?_, rfl, hnx.frame _, fun h => by cases h⟩
  · exact trodAll_mk1 (shut_bool Try.underlying4 true)
  · exact trodAll_mk3 (Below.trod Try.laidOut (by kernel_rfl) (of_decide_eq_true (by kernel_rfl)) h0k hnx hlt0) (Below.trod Try.laidOut (by kernel_rfl) (of_decide_eq_true (by kernel_rfl)) h1k hnx hlt1) (Below.trod Try.laidOut (by kernel_rfl) (of_decide_eq_true (by kernel_rfl)) h2k hnx hlt2)

theorem shorterHalf_holds : Rows.FnShorterIsPastHalfRingAndFlipsSaid :=
  OpenClaim.holds_of_wide 4 Try.f4 rfl rfl rfl rfl rfl rfl rfl ⟨rfl, rfl, rfl, rfl, rfl⟩ rfl rfl rfl rfl rfl (by kernel_rfl) Try.func4 (by kernel_rfl)
    (of_decide_eq_true (by kernel_rfl)) (by unfold Func.isWrapper; first | (rw [if_pos (by decide +kernel)]; kernel_rfl) | (rw [if_neg (by decide +kernel)]; exact ⟨rfl, rfl⟩))
    (fun os started H enc _ => shorterHalf_lifted os started H enc)

end Go.Proofs.Qxb6614289a
