/-
  Seat b6614289a: the third row, proved.
-/
import Derived.Test.Qxb6614289aV5
import Derived.Test.Qxb6614289aL3
import Derived.Test.Qxb6614289aAddUndoes
namespace Go.Proofs.Qxb6614289a
open Go.ChangeShapes Go.WideShapes Go.ChangeAt Go.RowKit

/-- The shift is past 159: true. -/
theorem law3_far {S : Int} {a b c : Nat} {w : World} (h0 : 159 < S) :
    Calls Try.prog 5 #[.int .u64 S, .agg #[.int .u64 (wd0 a), .int .u64 (wd1 a), .int .u64 (wd2 a), .int .u64 (wd3 a)], .agg #[.int .u64 (wd0 b), .int .u64 (wd1 b), .int .u64 (wd2 b), .int .u64 (wd3 b)], .agg #[.int .u64 (wd0 c), .int .u64 (wd1 c), .int .u64 (wd2 c), .int .u64 (wd3 c)]] w fun e w' => e = .returned (.bool true) ∧ Below w.heap.size w w' := by
  go_enter Try.func5, Try.ntmps5
  go_wp2
  go_ret
  exact ⟨rfl, abc_below w a b c⟩

set_option maxRecDepth 100000 in
set_option maxHeartbeats 1000000 in
/-- a is not on the ring of 160 bits: true. -/
theorem law3_offa {S : Int} {a b c : Nat} {w : World} (h1 : S ≤ 159) (ha : Big a) (da : decide (lowN a 160 = a) = false) :
    Calls Try.prog 5 #[.int .u64 S, .agg #[.int .u64 (wd0 a), .int .u64 (wd1 a), .int .u64 (wd2 a), .int .u64 (wd3 a)], .agg #[.int .u64 (wd0 b), .int .u64 (wd1 b), .int .u64 (wd2 b), .int .u64 (wd3 b)], .agg #[.int .u64 (wd0 c), .int .u64 (wd1 c), .int .u64 (wd2 c), .int .u64 (wd3 c)]] w fun e w' => e = .returned (.bool true) ∧ Below w.heap.size w w' := by
  go_enter Try.func5, Try.ntmps5
  go_wp2_with (go_at_call 6; refine (onRing_any h160 (by decide) (by decide) ha).mono ?_; rintro e w1 ⟨rfl, hb1⟩)
  go_ret
  exact ⟨rfl, below_call (abc_below w a b c) hb1⟩

set_option maxRecDepth 100000 in
set_option maxHeartbeats 1000000 in
/-- b is not on the ring of 160 bits: true. -/
theorem law3_offb {S : Int} {a b c : Nat} {w : World} (h1 : S ≤ 159) (ha : Big a) (hb : Big b) (da : decide (lowN a 160 = a) = true) (db : decide (lowN b 160 = b) = false) :
    Calls Try.prog 5 #[.int .u64 S, .agg #[.int .u64 (wd0 a), .int .u64 (wd1 a), .int .u64 (wd2 a), .int .u64 (wd3 a)], .agg #[.int .u64 (wd0 b), .int .u64 (wd1 b), .int .u64 (wd2 b), .int .u64 (wd3 b)], .agg #[.int .u64 (wd0 c), .int .u64 (wd1 c), .int .u64 (wd2 c), .int .u64 (wd3 c)]] w fun e w' => e = .returned (.bool true) ∧ Below w.heap.size w w' := by
  have t1 : True := trivial
  go_enter Try.func5, Try.ntmps5
  go_wp2_with (first
    | (go_at_call 6; have _u := t1; refine (onRing_any h160 (by decide) (by decide) ha).mono ?_; rintro e w1 ⟨rfl, hb1⟩; clear t1; obtain ⟨c0, c1, c2, c3⟩ := ((abc_b w a b c).call hb1).c4)
    | (go_at_call 6; refine (onRing_any h160 (by decide) (by decide) hb).mono ?_; rintro e w2 ⟨rfl, hb2⟩))
  go_ret
  exact ⟨rfl, below_call (below_call (abc_below w a b c) hb1) hb2⟩

theorem law3_any {S : Int} {a b c : Nat} {w : World} (h0 : 0 ≤ S) (ha : Big a) (hb : Big b) (hc : Big c) :
    Calls Try.prog 5 #[.int .u64 S, .agg #[.int .u64 (wd0 a), .int .u64 (wd1 a), .int .u64 (wd2 a), .int .u64 (wd3 a)], .agg #[.int .u64 (wd0 b), .int .u64 (wd1 b), .int .u64 (wd2 b), .int .u64 (wd3 b)], .agg #[.int .u64 (wd0 c), .int .u64 (wd1 c), .int .u64 (wd2 c), .int .u64 (wd3 c)]] w fun e w' => e = .returned (.bool true) ∧ Below w.heap.size w w' := by
  by_cases h1 : S ≤ 159
  · obtain ⟨m, hS, hM, m1, m2⟩ := big_S S h0 h1
    cases da : decide (lowN a 160 = a)
    · exact law3_offa h1 ha da
    · cases db : decide (lowN b 160 = b)
      · exact law3_offb h1 ha hb da db
      · have hpa : Big (lowN (addN a c) m) := big_lowN m (big_addN a c)
        have hpb : Big (lowN (addN b c) m) := big_lowN m (big_addN b c)
        have k11a : Hid (∀ w, Calls Try.prog 11 #[.agg #[.int .u64 S], .agg #[.int .u64 (wd0 a), .int .u64 (wd1 a), .int .u64 (wd2 a), .int .u64 (wd3 a)], .agg #[.int .u64 (wd0 c), .int .u64 (wd1 c), .int .u64 (wd2 c), .int .u64 (wd3 c)]] w fun e w' => e = .returned (.agg #[.int .u64 (wd0 (lowN (addN a c) m)), .int .u64 (wd1 (lowN (addN a c) m)), .int .u64 (wd2 (lowN (addN a c) m)), .int .u64 (wd3 (lowN (addN a c) m))]) ∧ Below w.heap.size w w') := fun w => zzadd_any hS m1 m2 ha hc
        have k11b : Hid (∀ w, Calls Try.prog 11 #[.agg #[.int .u64 S], .agg #[.int .u64 (wd0 b), .int .u64 (wd1 b), .int .u64 (wd2 b), .int .u64 (wd3 b)], .agg #[.int .u64 (wd0 c), .int .u64 (wd1 c), .int .u64 (wd2 c), .int .u64 (wd3 c)]] w fun e w' => e = .returned (.agg #[.int .u64 (wd0 (lowN (addN b c) m)), .int .u64 (wd1 (lowN (addN b c) m)), .int .u64 (wd2 (lowN (addN b c) m)), .int .u64 (wd3 (lowN (addN b c) m))]) ∧ Below w.heap.size w w') := fun w => zzadd_any hS m1 m2 hb hc
        have k9 : Hid (∀ w, Calls Try.prog 9 #[.agg #[.int .u64 S], .agg #[.int .u64 (wd0 a), .int .u64 (wd1 a), .int .u64 (wd2 a), .int .u64 (wd3 a)], .agg #[.int .u64 (wd0 b), .int .u64 (wd1 b), .int .u64 (wd2 b), .int .u64 (wd3 b)]] w fun e w' => e = .returned (.tuple #[.agg #[.int .u64 (wd0 (lowN (subN b a) m)), .int .u64 (wd1 (lowN (subN b a) m)), .int .u64 (wd2 (lowN (subN b a) m)), .int .u64 (wd3 (lowN (subN b a) m))], .agg #[.int .u64 (wd0 (lowN (subN a b) m)), .int .u64 (wd1 (lowN (subN a b) m)), .int .u64 (wd2 (lowN (subN a b) m)), .int .u64 (wd3 (lowN (subN a b) m))]]) ∧ Below w.heap.size w w') := fun w => arcs_any hS m1 m2 ha hb
        have k15 : Hid (∀ w, Calls Try.prog 15 #[.int .i64 (160 - S)] w fun e w' => e = .returned (.agg #[.int .u64 (wd0 (halfN m)), .int .u64 (wd1 (halfN m)), .int .u64 (wd2 (halfN m)), .int .u64 (wd3 (halfN m))]) ∧ Below w.heap.size w w') := fun w => half_any hM m1 m2
        cases hd : decide ((lowN (subN a b) m) < (lowN (subN b a) m))
        · have hy : decide ((lowN (subN (lowN (addN a c) m) (lowN (addN b c) m)) m) < (lowN (subN (lowN (addN b c) m) (lowN (addN a c) m)) m)) = false := by
            rw [low_turned (by omega) hb, low_turned (by omega) ha]; exact hd
          have k13 : Hid (∀ w, Calls Try.prog 13 #[.agg #[.int .u64 S], .agg #[.int .u64 (wd0 a), .int .u64 (wd1 a), .int .u64 (wd2 a), .int .u64 (wd3 a)], .agg #[.int .u64 (wd0 b), .int .u64 (wd1 b), .int .u64 (wd2 b), .int .u64 (wd3 b)]] w fun e w' => e = .returned (.int .i64 0) ∧ Below w.heap.size w w') := fun w => shorter_0 hS m1 m2 ha hb hd
          have k13t : Hid (∀ w, Calls Try.prog 13 #[.agg #[.int .u64 S], .agg #[.int .u64 (wd0 (lowN (addN a c) m)), .int .u64 (wd1 (lowN (addN a c) m)), .int .u64 (wd2 (lowN (addN a c) m)), .int .u64 (wd3 (lowN (addN a c) m))], .agg #[.int .u64 (wd0 (lowN (addN b c) m)), .int .u64 (wd1 (lowN (addN b c) m)), .int .u64 (wd2 (lowN (addN b c) m)), .int .u64 (wd3 (lowN (addN b c) m))]] w fun e w' => e = .returned (.int .i64 0) ∧ Below w.heap.size w w') := fun w => shorter_0 hS m1 m2 hpa hpb hy
          have hl : decide (halfN m < (lowN (subN b a) m)) = false := (dir_half m1 (by omega) ha hb).trans hd
          have k17 : Hid (∀ w, Calls Try.prog 17 #[.agg #[.int .u64 (wd0 (halfN m)), .int .u64 (wd1 (halfN m)), .int .u64 (wd2 (halfN m)), .int .u64 (wd3 (halfN m))], .agg #[.int .u64 (wd0 (lowN (subN b a) m)), .int .u64 (wd1 (lowN (subN b a) m)), .int .u64 (wd2 (lowN (subN b a) m)), .int .u64 (wd3 (lowN (subN b a) m))]] w fun e w' => e = .returned (.bool false) ∧ Below w.heap.size w w') := fun w => by
            have T := less_any (w := w) (big_halfN m2) (big_lowN m (big_subN b a))
            rw [hl] at T
            exact T
          have k11 : Hid (∀ w, Calls Try.prog 11 #[.agg #[.int .u64 S], .agg #[.int .u64 (wd0 a), .int .u64 (wd1 a), .int .u64 (wd2 a), .int .u64 (wd3 a)], .agg #[.int .u64 (wd0 (lowN (subN b a) m)), .int .u64 (wd1 (lowN (subN b a) m)), .int .u64 (wd2 (lowN (subN b a) m)), .int .u64 (wd3 (lowN (subN b a) m))]] w fun e w' => e = .returned (.agg #[.int .u64 (wd0 (lowN b m)), .int .u64 (wd1 (lowN b m)), .int .u64 (wd2 (lowN b m)), .int .u64 (wd3 (lowN b m))]) ∧ Below w.heap.size w w') := fun w => zzadd_back hS m1 m2 ha hb
          have k12 : Hid (∀ w, Calls Try.prog 12 #[.agg #[.int .u64 (wd0 b), .int .u64 (wd1 b), .int .u64 (wd2 b), .int .u64 (wd3 b)], .int .i64 (160 - S)] w fun e w' => e = .returned (.agg #[.int .u64 (wd0 (lowN b m)), .int .u64 (wd1 (lowN b m)), .int .u64 (wd2 (lowN b m)), .int .u64 (wd3 (lowN b m))]) ∧ Below w.heap.size w w') := fun w => mask_any hM m1 m2
          exact law3_clock k13 k11a k11b k13t k9 k15 (big_lowN m hb) k17 k11 k12 h0 h1 ha hb da db
        · have hy : decide ((lowN (subN (lowN (addN a c) m) (lowN (addN b c) m)) m) < (lowN (subN (lowN (addN b c) m) (lowN (addN a c) m)) m)) = true := by
            rw [low_turned (by omega) hb, low_turned (by omega) ha]; exact hd
          have k13 : Hid (∀ w, Calls Try.prog 13 #[.agg #[.int .u64 S], .agg #[.int .u64 (wd0 a), .int .u64 (wd1 a), .int .u64 (wd2 a), .int .u64 (wd3 a)], .agg #[.int .u64 (wd0 b), .int .u64 (wd1 b), .int .u64 (wd2 b), .int .u64 (wd3 b)]] w fun e w' => e = .returned (.int .i64 1) ∧ Below w.heap.size w w') := fun w => shorter_1 hS m1 m2 ha hb hd
          have k13t : Hid (∀ w, Calls Try.prog 13 #[.agg #[.int .u64 S], .agg #[.int .u64 (wd0 (lowN (addN a c) m)), .int .u64 (wd1 (lowN (addN a c) m)), .int .u64 (wd2 (lowN (addN a c) m)), .int .u64 (wd3 (lowN (addN a c) m))], .agg #[.int .u64 (wd0 (lowN (addN b c) m)), .int .u64 (wd1 (lowN (addN b c) m)), .int .u64 (wd2 (lowN (addN b c) m)), .int .u64 (wd3 (lowN (addN b c) m))]] w fun e w' => e = .returned (.int .i64 1) ∧ Below w.heap.size w w') := fun w => shorter_1 hS m1 m2 hpa hpb hy
          have hl : decide ((lowN (subN a b) m) < halfN m) = true := anti_less m1 (by omega) ha hb hd
          have k17 : Hid (∀ w, Calls Try.prog 17 #[.agg #[.int .u64 (wd0 (lowN (subN a b) m)), .int .u64 (wd1 (lowN (subN a b) m)), .int .u64 (wd2 (lowN (subN a b) m)), .int .u64 (wd3 (lowN (subN a b) m))], .agg #[.int .u64 (wd0 (halfN m)), .int .u64 (wd1 (halfN m)), .int .u64 (wd2 (halfN m)), .int .u64 (wd3 (halfN m))]] w fun e w' => e = .returned (.bool true) ∧ Below w.heap.size w w') := fun w => by
            have T := less_any (w := w) (big_lowN m (big_subN a b)) (big_halfN m2)
            rw [hl] at T
            exact T
          have k11 : Hid (∀ w, Calls Try.prog 11 #[.agg #[.int .u64 S], .agg #[.int .u64 (wd0 b), .int .u64 (wd1 b), .int .u64 (wd2 b), .int .u64 (wd3 b)], .agg #[.int .u64 (wd0 (lowN (subN a b) m)), .int .u64 (wd1 (lowN (subN a b) m)), .int .u64 (wd2 (lowN (subN a b) m)), .int .u64 (wd3 (lowN (subN a b) m))]] w fun e w' => e = .returned (.agg #[.int .u64 (wd0 (lowN a m)), .int .u64 (wd1 (lowN a m)), .int .u64 (wd2 (lowN a m)), .int .u64 (wd3 (lowN a m))]) ∧ Below w.heap.size w w') := fun w => zzadd_back hS m1 m2 hb ha
          have k12 : Hid (∀ w, Calls Try.prog 12 #[.agg #[.int .u64 (wd0 a), .int .u64 (wd1 a), .int .u64 (wd2 a), .int .u64 (wd3 a)], .int .i64 (160 - S)] w fun e w' => e = .returned (.agg #[.int .u64 (wd0 (lowN a m)), .int .u64 (wd1 (lowN a m)), .int .u64 (wd2 (lowN a m)), .int .u64 (wd3 (lowN a m))]) ∧ Below w.heap.size w w') := fun w => mask_any hM m1 m2
          exact law3_anti k13 k11a k11b k13t k9 k15 (big_lowN m ha) k17 k11 k12 h0 h1 ha hb da db
  · exact law3_far (by omega)

set_option maxRecDepth 100000 in
theorem shorterTurns_lifted (os : Os) (started : os.Started) (H : Type) (enc : TypeId × Value → H) :
    ReturnsInHanded {} Try.checked os 5 .any (Rows.fnShorterTurnsWithTheRingAndLandsSpec.pre6 enc Try.prog Try.f5 Rows.fnShorterTurnsWithTheRingAndLandsRow.domain false) (Rows.fnShorterTurnsWithTheRingAndLandsSpec.post enc Try.prog Try.f5 false true false false) := by
  refine returnsInHanded_of_change (C := Try.checked) Try.own started (by kernel_rfl) Try.func5
    (ChangeSpec.witness6 (enc := enc) (C := Try.checked) false ⟨#[], #[.int .u64 0, .agg #[.int .u64 0, .int .u64 0, .int .u64 0, .int .u64 0], .agg #[.int .u64 0, .int .u64 0, .int .u64 0, .int .u64 0], .agg #[.int .u64 0, .int .u64 0, .int .u64 0, .int .u64 0]], []⟩ 8 (by kernel_rfl) (by kernel_rfl) (by kernel_rfl) (by kernel_rfl)) ?_
  intro W base args ds gs before hval0 hW _ _
  have hval : ∀ (j : Nat) t v, Try.f5.params[j]? = some t → args[j]? = some v → Value.okWide Try.prog W .any base t v := hval0
  have hW' := hW
  obtain ⟨p, q, hA0, hV, rfl, _, _⟩ := hW
  have hA : DataW.TrodAll enc Try.prog W 0 (fun _ => true) true Try.f5.params.toList args.toList ds p := hA0
  rw [Try.params5] at hA hval
  obtain ⟨v0, v1, v2, v3, d0, d1, d2, d3, p0, p1, p2, p3, rfl, rfl, rfl, h0, h1, h2, h3⟩ := trodAll_four hA
  obtain ⟨rfl, rfl⟩ := trodVars_none hV
  have h0k := h0
  have h1k := h1
  have h2k := h2
  have h3k := h3
  obtain ⟨S, rfl, _, _, wS⟩ := open_int Try.underlying22 (hval 0 22 v0 rfl rfl) h0
  obtain ⟨a, ha, rfl⟩ := arr_open (hval 1 24 v1 rfl rfl) h1
  obtain ⟨b, hb, rfl⟩ := arr_open (hval 2 24 v2 rfl rfl) h2
  obtain ⟨c, hc, rfl⟩ := arr_open (hval 3 24 v3 rfl rfl) h3
  clear hA0 hval0
  simp only [List.append_nil] at hW'
  have hlt : ∀ x, (x ∈ p0 ∨ x ∈ p1 ∨ x ∈ p2 ∨ x ∈ p3) → x.block < W.heap.size := fun x hx => by simpa using hW'.lt x (by simpa [or_assoc] using hx)
  have hlt0 : ∀ x ∈ p0, x.block < W.heap.size := fun x hx => hlt x (.inl hx)
  have hlt1 : ∀ x ∈ p1, x.block < W.heap.size := fun x hx => hlt x (.inr (.inl hx))
  have hlt2 : ∀ x ∈ p2, x.block < W.heap.size := fun x hx => hlt x (.inr (.inr (.inl hx)))
  have hlt3 : ∀ x ∈ p3, x.block < W.heap.size := fun x hx => hlt x (.inr (.inr (.inr hx)))
  refine (law3_any (word_of_wf wS).1 ha hb hc).mono fun e W' ⟨he, hnx⟩ => ?_
  subst he
  have hargs := trodAll_mk4 (Below.trod Try.laidOut (by kernel_rfl) (of_decide_eq_true (by kernel_rfl)) h0k hnx hlt0) (Below.trod Try.laidOut (by kernel_rfl) (of_decide_eq_true (by kernel_rfl)) h1k hnx hlt1) (Below.trod Try.laidOut (by kernel_rfl) (of_decide_eq_true (by kernel_rfl)) h2k hnx hlt2) (Below.trod Try.laidOut (by kernel_rfl) (of_decide_eq_true (by kernel_rfl)) h3k hnx hlt3)
  refine ⟨_, rfl, _, _, _, [], p0 ++ (p1 ++ (p2 ++ p3)), [], hW', ?_, ?_, rfl, hnx.frame _, fun h => by cases h⟩
  · exact trodAll_mk1 (shut_bool Try.underlying4 true)
  · exact hargs

theorem shorterTurns_holds : Rows.FnShorterTurnsWithTheRingAndLandsSaid :=
  OpenClaim.holds_of_wide 5 Try.f5 rfl rfl rfl rfl rfl rfl rfl ⟨rfl, rfl, rfl, rfl, rfl⟩ rfl rfl rfl rfl rfl (by kernel_rfl) Try.func5 (by kernel_rfl)
    (of_decide_eq_true (by kernel_rfl)) (by unfold Func.isWrapper; first | (rw [if_pos (by decide +kernel)]; kernel_rfl) | (rw [if_neg (by decide +kernel)]; exact ⟨rfl, rfl⟩))
    (fun os started H enc _ => shorterTurns_lifted os started H enc)

end Go.Proofs.Qxb6614289a
