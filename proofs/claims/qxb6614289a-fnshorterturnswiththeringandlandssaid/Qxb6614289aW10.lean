/-
  Seat b6614289a: zzMask: a number modulo 2^m, by the law's own words.
-/
import Derived.Test.Qxb6614289aW9
namespace Go.Proofs.Qxb6614289a
open Go.RowKit

/-- 'x & (1<<k - 1)'. -/
def andM (x : Int) (k : Nat) : Int := bits BinOp.and IntKind.u64 x (IntKind.u64.wrap (IntKind.u64.wrap (2 ^ k) - 1))

theorem andM_eq {x : Int} {k : Nat} (hx : Word x) (hk : k < 64) : andM x k = x % 2 ^ k := by
  obtain ⟨x0, x1⟩ := hx
  have hp : (1 : Int) ≤ 2 ^ k := pow_pos k
  have hl : (2 : Int) ^ k < 18446744073709551616 := by
    have h := Nat.pow_lt_pow_right (a := 2) (by decide) hk
    have h2 : ((2 ^ k : Nat) : Int) < ((2 ^ 64 : Nat) : Int) := by omega
    simpa using h2
  have e1 : IntKind.u64.wrap (2 ^ k) = 2 ^ k := by rw [IntKind.wrap_u64]; exact Int.emod_eq_of_lt (by omega) hl
  have e2 : IntKind.u64.wrap (2 ^ k - 1) = 2 ^ k - 1 := by rw [IntKind.wrap_u64]; exact Int.emod_eq_of_lt (by omega) (by omega)
  unfold andM
  rw [e1, e2, u64_and x _ x0 x1 (by omega) (by omega)]
  obtain ⟨X, rfl⟩ := Int.eq_ofNat_of_zero_le x0
  have e3 : ((2 : Int) ^ k - 1).toNat = 2 ^ k - 1 := by
    have : (2 : Int) ^ k = ((2 ^ k : Nat) : Int) := by simp
    rw [this]; omega
  rw [e3, Int.toNat_natCast, Nat.and_two_pow_sub_one_eq_mod]
  simp

theorem mod_64 {x : Int} (hx : Word x) : x % 2 ^ 64 = x := Int.emod_eq_of_lt hx.1 (by simpa using hx.2)


set_option maxRecDepth 100000 in
set_option maxHeartbeats 1000000 in
theorem mask_A {x0 x1 x2 x3 m : Int} {w : World} (m1 : 128 < m) (m2 : m < 192) :
    Calls Try.prog 12 #[.agg #[.int .u64 x0, .int .u64 x1, .int .u64 x2, .int .u64 x3], .int .i64 m] w fun e w' =>
      e = .returned (.agg #[.int .u64 x0, .int .u64 x1, .int .u64 (andM x2 (m - 128).toNat), .int .u64 0]) ∧ Below w.heap.size w w' := by
  go_enter Try.func12, Try.ntmps12
  go_wp2
  refine wp_loop_rounds 5 ?_
  rw [rounds_succ]
  go_wp2
  rw [rounds_succ]
  go_wp2
  rw [rounds_succ]
  go_wp2
  rw [rounds_succ]
  go_wp2
  rw [rounds_succ]
  go_wp2
  exact bodyPost_ret (v := .agg #[.int .u64 x0, .int .u64 x1, .int .u64 (andM x2 (m - 128).toNat), .int .u64 0]) (by simp [results, Try.results12, go_sem, andM]) rfl ⟨rfl, ((Below.refl _ _).alloc (Nat.le_refl _) _).alloc (by simp) _⟩

set_option maxRecDepth 100000 in
set_option maxHeartbeats 1000000 in
theorem mask_B {x0 x1 x2 x3 m : Int} {w : World} (m1 : 64 < m) (m2 : m < 128) :
    Calls Try.prog 12 #[.agg #[.int .u64 x0, .int .u64 x1, .int .u64 x2, .int .u64 x3], .int .i64 m] w fun e w' =>
      e = .returned (.agg #[.int .u64 x0, .int .u64 (andM x1 (m - 64).toNat), .int .u64 0, .int .u64 0]) ∧ Below w.heap.size w w' := by
  go_enter Try.func12, Try.ntmps12
  go_wp2
  refine wp_loop_rounds 5 ?_
  rw [rounds_succ]
  go_wp2
  rw [rounds_succ]
  go_wp2
  rw [rounds_succ]
  go_wp2
  rw [rounds_succ]
  go_wp2
  rw [rounds_succ]
  go_wp2
  exact bodyPost_ret (v := .agg #[.int .u64 x0, .int .u64 (andM x1 (m - 64).toNat), .int .u64 0, .int .u64 0]) (by simp [results, Try.results12, go_sem, andM]) rfl ⟨rfl, ((Below.refl _ _).alloc (Nat.le_refl _) _).alloc (by simp) _⟩

set_option maxRecDepth 100000 in
set_option maxHeartbeats 1000000 in
theorem mask_C {x0 x1 x2 x3 m : Int} {w : World} (m1 : 0 < m) (m2 : m < 64) :
    Calls Try.prog 12 #[.agg #[.int .u64 x0, .int .u64 x1, .int .u64 x2, .int .u64 x3], .int .i64 m] w fun e w' =>
      e = .returned (.agg #[.int .u64 (andM x0 m.toNat), .int .u64 0, .int .u64 0, .int .u64 0]) ∧ Below w.heap.size w w' := by
  go_enter Try.func12, Try.ntmps12
  go_wp2
  refine wp_loop_rounds 5 ?_
  rw [rounds_succ]
  go_wp2
  rw [rounds_succ]
  go_wp2
  rw [rounds_succ]
  go_wp2
  rw [rounds_succ]
  go_wp2
  rw [rounds_succ]
  go_wp2
  exact bodyPost_ret (v := .agg #[.int .u64 (andM x0 m.toNat), .int .u64 0, .int .u64 0, .int .u64 0]) (by simp [results, Try.results12, go_sem, andM]) rfl ⟨rfl, ((Below.refl _ _).alloc (Nat.le_refl _) _).alloc (by simp) _⟩

set_option maxRecDepth 100000 in
set_option maxHeartbeats 1000000 in
theorem mask_128 {x0 x1 x2 x3 m : Int} {w : World} (m1 : 128 ≤ m) (m2 : m ≤ 128) :
    Calls Try.prog 12 #[.agg #[.int .u64 x0, .int .u64 x1, .int .u64 x2, .int .u64 x3], .int .i64 m] w fun e w' =>
      e = .returned (.agg #[.int .u64 x0, .int .u64 x1, .int .u64 0, .int .u64 0]) ∧ Below w.heap.size w w' := by
  go_enter Try.func12, Try.ntmps12
  go_wp2
  refine wp_loop_rounds 5 ?_
  rw [rounds_succ]
  go_wp2
  rw [rounds_succ]
  go_wp2
  rw [rounds_succ]
  go_wp2
  rw [rounds_succ]
  go_wp2
  rw [rounds_succ]
  go_wp2
  exact bodyPost_ret (v := .agg #[.int .u64 x0, .int .u64 x1, .int .u64 0, .int .u64 0]) (by simp [results, Try.results12, go_sem]) rfl ⟨rfl, ((Below.refl _ _).alloc (Nat.le_refl _) _).alloc (by simp) _⟩

set_option maxRecDepth 100000 in
set_option maxHeartbeats 1000000 in
theorem mask_64 {x0 x1 x2 x3 m : Int} {w : World} (m1 : 64 ≤ m) (m2 : m ≤ 64) :
    Calls Try.prog 12 #[.agg #[.int .u64 x0, .int .u64 x1, .int .u64 x2, .int .u64 x3], .int .i64 m] w fun e w' =>
      e = .returned (.agg #[.int .u64 x0, .int .u64 0, .int .u64 0, .int .u64 0]) ∧ Below w.heap.size w w' := by
  go_enter Try.func12, Try.ntmps12
  go_wp2
  refine wp_loop_rounds 5 ?_
  rw [rounds_succ]
  go_wp2
  rw [rounds_succ]
  go_wp2
  rw [rounds_succ]
  go_wp2
  rw [rounds_succ]
  go_wp2
  rw [rounds_succ]
  go_wp2
  exact bodyPost_ret (v := .agg #[.int .u64 x0, .int .u64 0, .int .u64 0, .int .u64 0]) (by simp [results, Try.results12, go_sem]) rfl ⟨rfl, ((Below.refl _ _).alloc (Nat.le_refl _) _).alloc (by simp) _⟩

/-- zzMask at a number. -/
theorem mask_any {v m : Nat} {M : Int} {w : World} (hM : Hid (M = (m : Int))) (m1 : 0 < m) (m2 : m ≤ 160) :
    Calls Try.prog 12 #[.agg #[.int .u64 (wd0 v), .int .u64 (wd1 v), .int .u64 (wd2 v), .int .u64 (wd3 v)], .int .i64 M] w fun e w' =>
      e = .returned (.agg #[.int .u64 (wd0 (lowN v m)), .int .u64 (wd1 (lowN v m)), .int .u64 (wd2 (lowN v m)), .int .u64 (wd3 (lowN v m))]) ∧ Below w.heap.size w w' := by
  have e := hM.out
  by_cases h1 : 128 < m
  · have T := mask_A (x0 := wd0 v) (x1 := wd1 v) (x2 := wd2 v) (x3 := wd3 v) (m := M) (w := w) (by omega) (by omega)
    have h := low_A v (j := (M - 128).toNat) (by omega)
    have hm : m = 128 + (M - 128).toNat := by omega
    rw [andM_eq (word_wd2 v) (by omega), h.2.2.1] at T
    rw [hm, ← h.1, ← h.2.1, ← h.2.2.2]
    exact T
  · by_cases h2 : m = 128
    · have T := mask_128 (x0 := wd0 v) (x1 := wd1 v) (x2 := wd2 v) (x3 := wd3 v) (m := M) (w := w) (by omega) (by omega)
      have h := low_B v (j := 64) (by omega)
      rw [mod_64 (word_wd1 v)] at h
      rw [h2, ← h.1, ← h.2.1, ← h.2.2.1, ← h.2.2.2]
      exact T
    · by_cases h3 : 64 < m
      · have T := mask_B (x0 := wd0 v) (x1 := wd1 v) (x2 := wd2 v) (x3 := wd3 v) (m := M) (w := w) (by omega) (by omega)
        have h := low_B v (j := (M - 64).toNat) (by omega)
        have hm : m = 64 + (M - 64).toNat := by omega
        rw [andM_eq (word_wd1 v) (by omega), h.2.1] at T
        rw [hm, ← h.1, ← h.2.2.1, ← h.2.2.2]
        exact T
      · by_cases h4 : m = 64
        · have T := mask_64 (x0 := wd0 v) (x1 := wd1 v) (x2 := wd2 v) (x3 := wd3 v) (m := M) (w := w) (by omega) (by omega)
          have h := low_C v (j := 64) (by omega)
          rw [mod_64 (word_wd0 v)] at h
          rw [h4, ← h.1, ← h.2.1, ← h.2.2.1, ← h.2.2.2]
          exact T
        · have T := mask_C (x0 := wd0 v) (x1 := wd1 v) (x2 := wd2 v) (x3 := wd3 v) (m := M) (w := w) (by omega) (by omega)
          have h := low_C v (j := M.toNat) (by omega)
          have hm : m = M.toNat := by omega
          rw [andM_eq (word_wd0 v) (by omega), h.1] at T
          rw [hm, ← h.2.1, ← h.2.2.1, ← h.2.2.2]
          exact T

end Go.Proofs.Qxb6614289a
