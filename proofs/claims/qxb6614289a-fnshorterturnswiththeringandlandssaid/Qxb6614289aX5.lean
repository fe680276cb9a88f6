/-
  Seat b6614289a: Compare, Shorter, zzShorterByHalf.
-/
import Derived.Test.Qxb6614289aX4
namespace Go.Proofs.Qxb6614289a
open Go.RowKit

/-- Two boxes of numbers. -/
def two (w : World) (a b : Nat) : World := (w.alloc (.cells (W4 (wd0 a) (wd1 a) (wd2 a) (wd3 a)) 31)).alloc (.cells (W4 (wd0 b) (wd1 b) (wd2 b) (wd3 b)) 31)
theorem two_a (w : World) (a b : Nat) : Blk (two w a b) w.heap.size 31 (W4 (wd0 a) (wd1 a) (wd2 a) (wd3 a)) := (Blk.new w 31 _).alloc _
theorem two_b (w : World) (a b : Nat) : Blk (two w a b) (w.heap.size + 1) 31 (W4 (wd0 b) (wd1 b) (wd2 b) (wd3 b)) := Blk.new2 w _ 31 _
theorem two_below (w : World) (a b : Nat) : Below w.heap.size w (two w a b) := ((Below.refl _ _).alloc (Nat.le_refl _) _).alloc (by simp) _
theorem two_size (w : World) (a b : Nat) : w.heap.size ≤ (two w a b).heap.size := (two_below w a b).size

set_option maxRecDepth 100000 in
set_option maxHeartbeats 1000000 in
theorem compare_lt {a b : Nat} {w : World} (ha : Big a) (hb : Big b) (h : decide (a < b) = true) :
    Calls Try.prog 20 #[.agg #[.int .u64 (wd0 a), .int .u64 (wd1 a), .int .u64 (wd2 a), .int .u64 (wd3 a)], .agg #[.int .u64 (wd0 b), .int .u64 (wd1 b), .int .u64 (wd2 b), .int .u64 (wd3 b)]] w fun e w' => e = .returned (.int .i64 (-1)) ∧ Below w.heap.size w w' := by
  go_enter Try.func20, Try.ntmps20
  go_wp2_with (go_at_call 24; refine (cmp_lt (two_a w a b) (two_b w a b) (word_wd0 a) (word_wd1 a) (word_wd2 a) (word_wd3 a) (word_wd0 b) (word_wd1 b) (word_wd2 b) (word_wd3 b) ((borrow_lt ha hb).trans h)).mono ?_; rintro e w1 ⟨rfl, hg⟩)
  go_ret
  exact ⟨rfl, (two_below w a b).grown hg (two_size w a b) (fun k hk => by cases hk)⟩

set_option maxRecDepth 100000 in
set_option maxHeartbeats 1000000 in
theorem compare_ge {a b : Nat} {w : World} (ha : Big a) (hb : Big b) (h : decide (a < b) = false) :
    Calls Try.prog 20 #[.agg #[.int .u64 (wd0 a), .int .u64 (wd1 a), .int .u64 (wd2 a), .int .u64 (wd3 a)], .agg #[.int .u64 (wd0 b), .int .u64 (wd1 b), .int .u64 (wd2 b), .int .u64 (wd3 b)]] w fun e w' => NotNeg e ∧ Below w.heap.size w w' := by
  go_enter Try.func20, Try.ntmps20
  go_wp2_with (go_at_call 24; refine (cmp_ge (two_a w a b) (two_b w a b) (word_wd0 a) (word_wd1 a) (word_wd2 a) (word_wd3 a) (word_wd0 b) (word_wd1 b) (word_wd2 b) (word_wd3 b) ((borrow_lt ha hb).trans h)).mono ?_; rintro e w1 ⟨⟨r, hr, rfl⟩, hg⟩)
  go_ret
  exact ⟨⟨r, hr, rfl⟩, (two_below w a b).grown hg (two_size w a b) (fun k hk => by cases hk)⟩

/-- 1: anticlockwise is the shorter way; 0: it is not. -/
def dir (a b m : Nat) : Int := if lowN (subN a b) m < lowN (subN b a) m then 1 else 0

/-- Three boxes: the space and two numbers. -/
def three (w : World) (S : Int) (a b : Nat) : World := ((w.alloc (.cells #[.int .u64 S] 27)).alloc (.cells (W4 (wd0 a) (wd1 a) (wd2 a) (wd3 a)) 31)).alloc (.cells (W4 (wd0 b) (wd1 b) (wd2 b) (wd3 b)) 31)
theorem three_below (w : World) (S : Int) (a b : Nat) : Below w.heap.size w (three w S a b) := (((Below.refl _ _).alloc (Nat.le_refl _) _).alloc (by simp) _).alloc (by simp; omega) _


set_option maxRecDepth 100000 in
set_option maxHeartbeats 1000000 in
theorem shorter_1 {S : Int} {a b m : Nat} {w : World} (hS : Hid (S = 160 - (m : Int))) (m1 : 0 < m) (m2 : m ≤ 160) (ha : Big a) (hb : Big b) (h : decide (lowN (subN a b) m < lowN (subN b a) m) = true) :
    Calls Try.prog 13 #[.agg #[.int .u64 S], .agg #[.int .u64 (wd0 a), .int .u64 (wd1 a), .int .u64 (wd2 a), .int .u64 (wd3 a)], .agg #[.int .u64 (wd0 b), .int .u64 (wd1 b), .int .u64 (wd2 b), .int .u64 (wd3 b)]] w fun e w' => e = .returned (.int .i64 1) ∧ Below w.heap.size w w' := by
  go_enter Try.func13, Try.ntmps13
  go_wp2_with (first
    | (go_at_call 9; refine (arcs_any hS m1 m2 ha hb).mono ?_; rintro e w1 ⟨rfl, hb1⟩; have hw1 := below_call (three_below w S a b) hb1)
    | (go_at_call 20; refine (compare_lt (big_lowN m (big_subN a b)) (big_lowN m (big_subN b a)) h).mono ?_; rintro e w2 ⟨rfl, hb2⟩; have hw2 := below_call ((hw1.alloc hw1.size (.cells (W4 (wd0 (lowN (subN b a) m)) (wd1 (lowN (subN b a) m)) (wd2 (lowN (subN b a) m)) (wd3 (lowN (subN b a) m))) 31)).alloc (by simp; have h := hw1.size; omega) (.cells (W4 (wd0 (lowN (subN a b) m)) (wd1 (lowN (subN a b) m)) (wd2 (lowN (subN a b) m)) (wd3 (lowN (subN a b) m))) 31)) hb2))
  go_ret
  exact ⟨rfl, hw2⟩

set_option maxRecDepth 100000 in
set_option maxHeartbeats 1000000 in
theorem shorter_0 {S : Int} {a b m : Nat} {w : World} (hS : Hid (S = 160 - (m : Int))) (m1 : 0 < m) (m2 : m ≤ 160) (ha : Big a) (hb : Big b) (h : decide (lowN (subN a b) m < lowN (subN b a) m) = false) :
    Calls Try.prog 13 #[.agg #[.int .u64 S], .agg #[.int .u64 (wd0 a), .int .u64 (wd1 a), .int .u64 (wd2 a), .int .u64 (wd3 a)], .agg #[.int .u64 (wd0 b), .int .u64 (wd1 b), .int .u64 (wd2 b), .int .u64 (wd3 b)]] w fun e w' => e = .returned (.int .i64 0) ∧ Below w.heap.size w w' := by
  go_enter Try.func13, Try.ntmps13
  go_wp2_with (first
    | (go_at_call 9; refine (arcs_any hS m1 m2 ha hb).mono ?_; rintro e w1 ⟨rfl, hb1⟩; have hw1 := below_call (three_below w S a b) hb1)
    | (go_at_call 20; refine (compare_ge (big_lowN m (big_subN a b)) (big_lowN m (big_subN b a)) h).mono ?_; rintro e w2 ⟨⟨r, hr, rfl⟩, hb2⟩; have hw2 := below_call ((hw1.alloc hw1.size (.cells (W4 (wd0 (lowN (subN b a) m)) (wd1 (lowN (subN b a) m)) (wd2 (lowN (subN b a) m)) (wd3 (lowN (subN b a) m))) 31)).alloc (by simp; have h := hw1.size; omega) (.cells (W4 (wd0 (lowN (subN a b) m)) (wd1 (lowN (subN a b) m)) (wd2 (lowN (subN a b) m)) (wd3 (lowN (subN a b) m))) 31)) hb2))
  go_ret
  exact ⟨rfl, hw2⟩

theorem shorter_any {S : Int} {a b m : Nat} {w : World} (hS : Hid (S = 160 - (m : Int))) (m1 : 0 < m) (m2 : m ≤ 160) (ha : Big a) (hb : Big b) :
    Calls Try.prog 13 #[.agg #[.int .u64 S], .agg #[.int .u64 (wd0 a), .int .u64 (wd1 a), .int .u64 (wd2 a), .int .u64 (wd3 a)], .agg #[.int .u64 (wd0 b), .int .u64 (wd1 b), .int .u64 (wd2 b), .int .u64 (wd3 b)]] w fun e w' => e = .returned (.int .i64 (dir a b m)) ∧ Below w.heap.size w w' := by
  unfold dir
  cases h : decide (lowN (subN a b) m < lowN (subN b a) m)
  · rw [if_neg (of_decide_eq_false h)]
    exact shorter_0 hS m1 m2 ha hb h
  · rw [if_pos (of_decide_eq_true h)]
    exact shorter_1 hS m1 m2 ha hb h

end Go.Proofs.Qxb6614289a
