/-
  Seat b6614289a: zzLess4: which of two numbers is less; zzHalf: half the ring.
-/
import Derived.Test.Qxb6614289aX2
namespace Go.Proofs.Qxb6614289a
open Go.RowKit


set_option maxRecDepth 100000 in
set_option maxHeartbeats 1000000 in
theorem less_3 {a b : Nat} {w : World} (_h3 : (wd3 a != wd3 b) = true) :
    Calls Try.prog 17 #[.agg #[.int .u64 (wd0 a), .int .u64 (wd1 a), .int .u64 (wd2 a), .int .u64 (wd3 a)], .agg #[.int .u64 (wd0 b), .int .u64 (wd1 b), .int .u64 (wd2 b), .int .u64 (wd3 b)]] w fun e w' => e = .returned (.bool (decide (wd3 a < wd3 b))) ∧ Below w.heap.size w w' := by
  go_enter Try.func17, Try.ntmps17
  go_wp2
  refine wp_loop_rounds 1 ?_
  rw [rounds_succ]
  go_wp2
  go_region
  go_wp2
  go_region
  go_wp2
  go_ret
  exact ⟨rfl, by repeat (first | exact Below.refl _ _ | apply Below.drew | refine Below.alloc ?_ (by simp) _)⟩

set_option maxRecDepth 100000 in
set_option maxHeartbeats 1000000 in
theorem less_2 {a b : Nat} {w : World} (_h3 : (wd3 a != wd3 b) = false) (_h2 : (wd2 a != wd2 b) = true) :
    Calls Try.prog 17 #[.agg #[.int .u64 (wd0 a), .int .u64 (wd1 a), .int .u64 (wd2 a), .int .u64 (wd3 a)], .agg #[.int .u64 (wd0 b), .int .u64 (wd1 b), .int .u64 (wd2 b), .int .u64 (wd3 b)]] w fun e w' => e = .returned (.bool (decide (wd2 a < wd2 b))) ∧ Below w.heap.size w w' := by
  go_enter Try.func17, Try.ntmps17
  go_wp2
  refine wp_loop_rounds 2 ?_
  rw [rounds_succ]
  go_wp2
  go_region
  go_wp2
  rw [rounds_succ]
  go_wp2
  go_region
  go_wp2
  go_region
  go_wp2
  go_ret
  exact ⟨rfl, by repeat (first | exact Below.refl _ _ | apply Below.drew | refine Below.alloc ?_ (by simp) _)⟩

set_option maxRecDepth 100000 in
set_option maxHeartbeats 1000000 in
theorem less_1 {a b : Nat} {w : World} (_h3 : (wd3 a != wd3 b) = false) (_h2 : (wd2 a != wd2 b) = false) (_h1 : (wd1 a != wd1 b) = true) :
    Calls Try.prog 17 #[.agg #[.int .u64 (wd0 a), .int .u64 (wd1 a), .int .u64 (wd2 a), .int .u64 (wd3 a)], .agg #[.int .u64 (wd0 b), .int .u64 (wd1 b), .int .u64 (wd2 b), .int .u64 (wd3 b)]] w fun e w' => e = .returned (.bool (decide (wd1 a < wd1 b))) ∧ Below w.heap.size w w' := by
  go_enter Try.func17, Try.ntmps17
  go_wp2
  refine wp_loop_rounds 3 ?_
  rw [rounds_succ]
  go_wp2
  go_region
  go_wp2
  rw [rounds_succ]
  go_wp2
  go_region
  go_wp2
  rw [rounds_succ]
  go_wp2
  go_region
  go_wp2
  go_region
  go_wp2
  go_ret
  exact ⟨rfl, by repeat (first | exact Below.refl _ _ | apply Below.drew | refine Below.alloc ?_ (by simp) _)⟩

set_option maxRecDepth 100000 in
set_option maxHeartbeats 1000000 in
theorem less_0 {a b : Nat} {w : World} (_h3 : (wd3 a != wd3 b) = false) (_h2 : (wd2 a != wd2 b) = false) (_h1 : (wd1 a != wd1 b) = false) (_h0 : (wd0 a != wd0 b) = true) :
    Calls Try.prog 17 #[.agg #[.int .u64 (wd0 a), .int .u64 (wd1 a), .int .u64 (wd2 a), .int .u64 (wd3 a)], .agg #[.int .u64 (wd0 b), .int .u64 (wd1 b), .int .u64 (wd2 b), .int .u64 (wd3 b)]] w fun e w' => e = .returned (.bool (decide (wd0 a < wd0 b))) ∧ Below w.heap.size w w' := by
  go_enter Try.func17, Try.ntmps17
  go_wp2
  refine wp_loop_rounds 4 ?_
  rw [rounds_succ]
  go_wp2
  go_region
  go_wp2
  rw [rounds_succ]
  go_wp2
  go_region
  go_wp2
  rw [rounds_succ]
  go_wp2
  go_region
  go_wp2
  rw [rounds_succ]
  go_wp2
  go_region
  go_wp2
  go_region
  go_wp2
  go_ret
  exact ⟨rfl, by repeat (first | exact Below.refl _ _ | apply Below.drew | refine Below.alloc ?_ (by simp) _)⟩

set_option maxRecDepth 100000 in
set_option maxHeartbeats 1000000 in
theorem less_e {a b : Nat} {w : World} (_h3 : (wd3 a != wd3 b) = false) (_h2 : (wd2 a != wd2 b) = false) (_h1 : (wd1 a != wd1 b) = false) (_h0 : (wd0 a != wd0 b) = false) :
    Calls Try.prog 17 #[.agg #[.int .u64 (wd0 a), .int .u64 (wd1 a), .int .u64 (wd2 a), .int .u64 (wd3 a)], .agg #[.int .u64 (wd0 b), .int .u64 (wd1 b), .int .u64 (wd2 b), .int .u64 (wd3 b)]] w fun e w' => e = .returned (.bool false) ∧ Below w.heap.size w w' := by
  go_enter Try.func17, Try.ntmps17
  go_wp2
  refine wp_loop_rounds 5 ?_
  rw [rounds_succ]
  go_wp2
  go_region
  go_wp2
  rw [rounds_succ]
  go_wp2
  go_region
  go_wp2
  rw [rounds_succ]
  go_wp2
  go_region
  go_wp2
  rw [rounds_succ]
  go_wp2
  go_region
  go_wp2
  rw [rounds_succ]
  go_wp2
  go_ret
  exact ⟨rfl, by repeat (first | exact Below.refl _ _ | apply Below.drew | refine Below.alloc ?_ (by simp) _)⟩

/-- zzLess4 at two numbers. -/
theorem less_any {a b : Nat} {w : World} (ha : Big a) (hb : Big b) :
    Calls Try.prog 17 #[.agg #[.int .u64 (wd0 a), .int .u64 (wd1 a), .int .u64 (wd2 a), .int .u64 (wd3 a)], .agg #[.int .u64 (wd0 b), .int .u64 (wd1 b), .int .u64 (wd2 b), .int .u64 (wd3 b)]] w fun e w' => e = .returned (.bool (decide (a < b))) ∧ Below w.heap.size w w' := by
  have va := val_of ha
  have vb := val_of hb
  obtain ⟨_, _⟩ := word_wd0 a; obtain ⟨_, _⟩ := word_wd1 a; obtain ⟨_, _⟩ := word_wd2 a; obtain ⟨_, _⟩ := word_wd3 a
  obtain ⟨_, _⟩ := word_wd0 b; obtain ⟨_, _⟩ := word_wd1 b; obtain ⟨_, _⟩ := word_wd2 b; obtain ⟨_, _⟩ := word_wd3 b
  cases h3 : (wd3 a != wd3 b)
  · have e3 : wd3 a = wd3 b := by simpa using h3
    cases h2 : (wd2 a != wd2 b)
    · have e2 : wd2 a = wd2 b := by simpa using h2
      cases h1 : (wd1 a != wd1 b)
      · have e1 : wd1 a = wd1 b := by simpa using h1
        cases h0 : (wd0 a != wd0 b)
        · have e0 : wd0 a = wd0 b := by simpa using h0
          have e : decide (a < b) = false := decide_eq_false (by omega)
          rw [e]
          exact less_e h3 h2 h1 h0
        · have e0 : wd0 a ≠ wd0 b := by simpa using h0
          have e : decide (a < b) = decide (wd0 a < wd0 b) := by rw [decide_eq_decide]; omega
          rw [e]
          exact less_0 h3 h2 h1 h0
      · have e1 : wd1 a ≠ wd1 b := by simpa using h1
        have e : decide (a < b) = decide (wd1 a < wd1 b) := by rw [decide_eq_decide]; omega
        rw [e]
        exact less_1 h3 h2 h1
    · have e2 : wd2 a ≠ wd2 b := by simpa using h2
      have e : decide (a < b) = decide (wd2 a < wd2 b) := by rw [decide_eq_decide]; omega
      rw [e]
      exact less_2 h3 h2
  · have e3 : wd3 a ≠ wd3 b := by simpa using h3
    have e : decide (a < b) = decide (wd3 a < wd3 b) := by rw [decide_eq_decide]; omega
    rw [e]
    exact less_3 h3

end Go.Proofs.Qxb6614289a
