/-
  Seat b6614289a: zzShorterByHalf.
-/
import Derived.Test.Qxb6614289aL2
import Derived.Test.Qxb6614289aV2
namespace Go.Proofs.Qxb6614289a
open Go.RowKit


set_option maxRecDepth 100000 in
set_option maxHeartbeats 1000000 in
theorem byHalf_1 {M : Int} {a b m : Nat} {w : World} (hM : Hid (M = (m : Int))) (m1 : 0 < m) (m2 : m ≤ 160) (ha : Big a) (hb : Big b) (h : decide (halfN m < lowN (subN b a) m) = true) :
    Calls Try.prog 16 #[.agg #[.int .u64 (wd0 a), .int .u64 (wd1 a), .int .u64 (wd2 a), .int .u64 (wd3 a)], .agg #[.int .u64 (wd0 b), .int .u64 (wd1 b), .int .u64 (wd2 b), .int .u64 (wd3 b)], .int .i64 M] w fun e w' => e = .returned (.int .i64 1) ∧ Below w.heap.size w w' := by
  go_enter Try.func16, Try.ntmps16
  go_wp2_with (first
    | (go_at_call 14; refine (sub4_any hb ha).mono ?_; rintro e w1 ⟨rfl, hb1⟩; have hw1 := below_call (ab_below w a b) hb1)
    | (go_at_call 12; refine (mask_any hM m1 m2).mono ?_; rintro e w3 ⟨rfl, hb3⟩; have hw3 := below_call hw1 hb3))
  have hlt : w3.heap.size + 1 ≤ (w3.alloc (.cells (W4 (wd0 (lowN (subN b a) m)) (wd1 (lowN (subN b a) m)) (wd2 (lowN (subN b a) m)) (wd3 (lowN (subN b a) m))) 24)).heap.size := by simp
  have nD : ∀ w', SL (w3.heap.size + 1) (w3.alloc (.cells (W4 (wd0 (lowN (subN b a) m)) (wd1 (lowN (subN b a) m)) (wd2 (lowN (subN b a) m)) (wd3 (lowN (subN b a) m))) 24)) w' → Blk w' w3.heap.size 24 (W4 (wd0 (lowN (subN b a) m)) (wd1 (lowN (subN b a) m)) (wd2 (lowN (subN b a) m)) (wd3 (lowN (subN b a) m))) := fun w' h => (Blk.new w3 24 _).below h.low (Nat.lt_succ_self _)
  have d0 : ∀ w', SL (w3.heap.size + 1) (w3.alloc (.cells (W4 (wd0 (lowN (subN b a) m)) (wd1 (lowN (subN b a) m)) (wd2 (lowN (subN b a) m)) (wd3 (lowN (subN b a) m))) 24)) w' → w'.cell? ⟨w3.heap.size, 0, none⟩ = some (.int .u64 (wd0 (lowN (subN b a) m))) := fun w' h => (nD w' h).cell 0
  have d1 : ∀ w', SL (w3.heap.size + 1) (w3.alloc (.cells (W4 (wd0 (lowN (subN b a) m)) (wd1 (lowN (subN b a) m)) (wd2 (lowN (subN b a) m)) (wd3 (lowN (subN b a) m))) 24)) w' → w'.cell? ⟨w3.heap.size, 1, none⟩ = some (.int .u64 (wd1 (lowN (subN b a) m))) := fun w' h => (nD w' h).cell 1
  have d2 : ∀ w', SL (w3.heap.size + 1) (w3.alloc (.cells (W4 (wd0 (lowN (subN b a) m)) (wd1 (lowN (subN b a) m)) (wd2 (lowN (subN b a) m)) (wd3 (lowN (subN b a) m))) 24)) w' → w'.cell? ⟨w3.heap.size, 2, none⟩ = some (.int .u64 (wd2 (lowN (subN b a) m))) := fun w' h => (nD w' h).cell 2
  have d3 : ∀ w', SL (w3.heap.size + 1) (w3.alloc (.cells (W4 (wd0 (lowN (subN b a) m)) (wd1 (lowN (subN b a) m)) (wd2 (lowN (subN b a) m)) (wd3 (lowN (subN b a) m))) 24)) w' → w'.cell? ⟨w3.heap.size, 3, none⟩ = some (.int .u64 (wd3 (lowN (subN b a) m))) := fun w' h => (nD w' h).cell 3
  have hfin : Below w.heap.size w (w3.alloc (.cells (W4 (wd0 (lowN (subN b a) m)) (wd1 (lowN (subN b a) m)) (wd2 (lowN (subN b a) m)) (wd3 (lowN (subN b a) m))) 24)) := hw3.alloc hw3.size _
  have hfs : w.heap.size ≤ w3.heap.size + 1 := Nat.le_succ_of_le hw3.size
  clear nD
  go_region_held3 (SL (w3.heap.size + 1) (w3.alloc (.cells (W4 (wd0 (lowN (subN b a) m)) (wd1 (lowN (subN b a) m)) (wd2 (lowN (subN b a) m)) (wd3 (lowN (subN b a) m))) 24))) (first
      | exact g2
      | exact ⟨(Below.refl _ _).drew⟩)
    (first
      | (go_at_call 15; refine (half_any hM m1 m2).mono ?_; rintro e w5 ⟨rfl, hb5⟩; have g2 : SL (w3.heap.size + 1) (w3.alloc (.cells (W4 (wd0 (lowN (subN b a) m)) (wd1 (lowN (subN b a) m)) (wd2 (lowN (subN b a) m)) (wd3 (lowN (subN b a) m))) 24)) w5 := (by refine SL.call ?_ hlt hb5; assumption))
      | (go_at_call 17; refine (less_any (big_halfN m2) (big_lowN m (big_subN b a))).mono ?_; rintro e w6 ⟨rfl, hb6⟩; have g2 : SL (w3.heap.size + 1) (w3.alloc (.cells (W4 (wd0 (lowN (subN b a) m)) (wd1 (lowN (subN b a) m)) (wd2 (lowN (subN b a) m)) (wd3 (lowN (subN b a) m))) 24)) w6 := (by refine SL.call ?_ hlt hb6; assumption)))
  go_wp2
  go_ret
  exact ⟨rfl, hfin.trans (g2.low.mono hfs)⟩

set_option maxRecDepth 100000 in
set_option maxHeartbeats 1000000 in
theorem byHalf_0 {M : Int} {a b m : Nat} {w : World} (hM : Hid (M = (m : Int))) (m1 : 0 < m) (m2 : m ≤ 160) (ha : Big a) (hb : Big b) (h : decide (halfN m < lowN (subN b a) m) = false) :
    Calls Try.prog 16 #[.agg #[.int .u64 (wd0 a), .int .u64 (wd1 a), .int .u64 (wd2 a), .int .u64 (wd3 a)], .agg #[.int .u64 (wd0 b), .int .u64 (wd1 b), .int .u64 (wd2 b), .int .u64 (wd3 b)], .int .i64 M] w fun e w' => e = .returned (.int .i64 0) ∧ Below w.heap.size w w' := by
  go_enter Try.func16, Try.ntmps16
  go_wp2_with (first
    | (go_at_call 14; refine (sub4_any hb ha).mono ?_; rintro e w1 ⟨rfl, hb1⟩; have hw1 := below_call (ab_below w a b) hb1)
    | (go_at_call 12; refine (mask_any hM m1 m2).mono ?_; rintro e w3 ⟨rfl, hb3⟩; have hw3 := below_call hw1 hb3))
  have hlt : w3.heap.size + 1 ≤ (w3.alloc (.cells (W4 (wd0 (lowN (subN b a) m)) (wd1 (lowN (subN b a) m)) (wd2 (lowN (subN b a) m)) (wd3 (lowN (subN b a) m))) 24)).heap.size := by simp
  have nD : ∀ w', SL (w3.heap.size + 1) (w3.alloc (.cells (W4 (wd0 (lowN (subN b a) m)) (wd1 (lowN (subN b a) m)) (wd2 (lowN (subN b a) m)) (wd3 (lowN (subN b a) m))) 24)) w' → Blk w' w3.heap.size 24 (W4 (wd0 (lowN (subN b a) m)) (wd1 (lowN (subN b a) m)) (wd2 (lowN (subN b a) m)) (wd3 (lowN (subN b a) m))) := fun w' h => (Blk.new w3 24 _).below h.low (Nat.lt_succ_self _)
  have d0 : ∀ w', SL (w3.heap.size + 1) (w3.alloc (.cells (W4 (wd0 (lowN (subN b a) m)) (wd1 (lowN (subN b a) m)) (wd2 (lowN (subN b a) m)) (wd3 (lowN (subN b a) m))) 24)) w' → w'.cell? ⟨w3.heap.size, 0, none⟩ = some (.int .u64 (wd0 (lowN (subN b a) m))) := fun w' h => (nD w' h).cell 0
  have d1 : ∀ w', SL (w3.heap.size + 1) (w3.alloc (.cells (W4 (wd0 (lowN (subN b a) m)) (wd1 (lowN (subN b a) m)) (wd2 (lowN (subN b a) m)) (wd3 (lowN (subN b a) m))) 24)) w' → w'.cell? ⟨w3.heap.size, 1, none⟩ = some (.int .u64 (wd1 (lowN (subN b a) m))) := fun w' h => (nD w' h).cell 1
  have d2 : ∀ w', SL (w3.heap.size + 1) (w3.alloc (.cells (W4 (wd0 (lowN (subN b a) m)) (wd1 (lowN (subN b a) m)) (wd2 (lowN (subN b a) m)) (wd3 (lowN (subN b a) m))) 24)) w' → w'.cell? ⟨w3.heap.size, 2, none⟩ = some (.int .u64 (wd2 (lowN (subN b a) m))) := fun w' h => (nD w' h).cell 2
  have d3 : ∀ w', SL (w3.heap.size + 1) (w3.alloc (.cells (W4 (wd0 (lowN (subN b a) m)) (wd1 (lowN (subN b a) m)) (wd2 (lowN (subN b a) m)) (wd3 (lowN (subN b a) m))) 24)) w' → w'.cell? ⟨w3.heap.size, 3, none⟩ = some (.int .u64 (wd3 (lowN (subN b a) m))) := fun w' h => (nD w' h).cell 3
  have hfin : Below w.heap.size w (w3.alloc (.cells (W4 (wd0 (lowN (subN b a) m)) (wd1 (lowN (subN b a) m)) (wd2 (lowN (subN b a) m)) (wd3 (lowN (subN b a) m))) 24)) := hw3.alloc hw3.size _
  have hfs : w.heap.size ≤ w3.heap.size + 1 := Nat.le_succ_of_le hw3.size
  clear nD
  go_region_held3 (SL (w3.heap.size + 1) (w3.alloc (.cells (W4 (wd0 (lowN (subN b a) m)) (wd1 (lowN (subN b a) m)) (wd2 (lowN (subN b a) m)) (wd3 (lowN (subN b a) m))) 24))) (first
      | exact g2
      | exact ⟨(Below.refl _ _).drew⟩)
    (first
      | (go_at_call 15; refine (half_any hM m1 m2).mono ?_; rintro e w5 ⟨rfl, hb5⟩; have g2 : SL (w3.heap.size + 1) (w3.alloc (.cells (W4 (wd0 (lowN (subN b a) m)) (wd1 (lowN (subN b a) m)) (wd2 (lowN (subN b a) m)) (wd3 (lowN (subN b a) m))) 24)) w5 := (by refine SL.call ?_ hlt hb5; assumption))
      | (go_at_call 17; refine (less_any (big_halfN m2) (big_lowN m (big_subN b a))).mono ?_; rintro e w6 ⟨rfl, hb6⟩; have g2 : SL (w3.heap.size + 1) (w3.alloc (.cells (W4 (wd0 (lowN (subN b a) m)) (wd1 (lowN (subN b a) m)) (wd2 (lowN (subN b a) m)) (wd3 (lowN (subN b a) m))) 24)) w6 := (by refine SL.call ?_ hlt hb6; assumption)))
  go_wp2
  go_ret
  exact ⟨rfl, hfin.trans (g2.low.mono hfs)⟩

theorem byHalf_any {M : Int} {a b m : Nat} {w : World} (hM : Hid (M = (m : Int))) (m1 : 0 < m) (m2 : m ≤ 160) (ha : Big a) (hb : Big b) :
    Calls Try.prog 16 #[.agg #[.int .u64 (wd0 a), .int .u64 (wd1 a), .int .u64 (wd2 a), .int .u64 (wd3 a)], .agg #[.int .u64 (wd0 b), .int .u64 (wd1 b), .int .u64 (wd2 b), .int .u64 (wd3 b)], .int .i64 M] w fun e w' => e = .returned (.int .i64 (dir a b m)) ∧ Below w.heap.size w w' := by
  have e := dir_half m1 (by omega) ha hb
  unfold dir
  cases h : decide (lowN (subN a b) m < lowN (subN b a) m)
  · rw [if_neg (of_decide_eq_false h)]
    exact byHalf_0 hM m1 m2 ha hb (e.trans h)
  · rw [if_pos (of_decide_eq_true h)]
    exact byHalf_1 hM m1 m2 ha hb (e.trans h)

end Go.Proofs.Qxb6614289a
