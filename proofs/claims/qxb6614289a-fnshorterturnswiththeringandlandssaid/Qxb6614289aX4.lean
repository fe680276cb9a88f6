/-
  Seat b6614289a: zzHalf: half the ring.
-/
import Derived.Test.Qxb6614289aX3
namespace Go.Proofs.Qxb6614289a
open Go.RowKit

/-- Half the ring of 2^m positions. -/
def halfN (m : Nat) : Nat := 2 ^ (m - 1)
def oneAt (M : Int) : Int := IntKind.u64.wrap (2 ^ ((M - 1) % 64).toNat)

theorem pow_word {r : Nat} (h : r < 64) : Word ((2 : Int) ^ r) := by
  refine ⟨Int.le_of_lt (pow_pos r), ?_⟩
  have h1 := Nat.pow_lt_pow_right (a := 2) (by decide) h
  have h2 : ((2 ^ r : Nat) : Int) < ((2 ^ 64 : Nat) : Int) := by omega
  simpa using h2

theorem oneAt_eq {M : Int} {r : Nat} (h : (M - 1) % 64 = (r : Int)) (hr : r < 64) : oneAt M = 2 ^ r := by
  unfold oneAt
  rw [h, Int.toNat_natCast, IntKind.wrap_u64]
  exact Int.emod_eq_of_lt (pow_word hr).1 (pow_word hr).2


set_option maxRecDepth 100000 in
set_option maxHeartbeats 1000000 in
theorem half_0 {M : Int} {w : World} (m1 : 1 ≤ M) (m2 : M ≤ 160) (hq : (M - 1) / 64 = 0) :
    Calls Try.prog 15 #[.int .i64 M] w fun e w' => e = .returned (.agg #[.int .u64 (oneAt M), .int .u64 0, .int .u64 0, .int .u64 0]) ∧ Below w.heap.size w w' := by
  have r0 : 0 ≤ (M - 1) % 64 := by omega
  have r1 : (M - 1) % 64 < 64 := by omega
  go_enter Try.func15, Try.ntmps15
  go_wp2
  exact bodyPost_ret (v := .agg #[.int .u64 (oneAt M), .int .u64 0, .int .u64 0, .int .u64 0]) (by simp [results, Try.results15, go_sem, oneAt]) rfl ⟨rfl, ((Below.refl _ _).alloc (Nat.le_refl _) _).alloc (by simp) _⟩

set_option maxRecDepth 100000 in
set_option maxHeartbeats 1000000 in
theorem half_1 {M : Int} {w : World} (m1 : 1 ≤ M) (m2 : M ≤ 160) (hq : (M - 1) / 64 = 1) :
    Calls Try.prog 15 #[.int .i64 M] w fun e w' => e = .returned (.agg #[.int .u64 0, .int .u64 (oneAt M), .int .u64 0, .int .u64 0]) ∧ Below w.heap.size w w' := by
  have r0 : 0 ≤ (M - 1) % 64 := by omega
  have r1 : (M - 1) % 64 < 64 := by omega
  go_enter Try.func15, Try.ntmps15
  go_wp2
  exact bodyPost_ret (v := .agg #[.int .u64 0, .int .u64 (oneAt M), .int .u64 0, .int .u64 0]) (by simp [results, Try.results15, go_sem, oneAt]) rfl ⟨rfl, ((Below.refl _ _).alloc (Nat.le_refl _) _).alloc (by simp) _⟩

set_option maxRecDepth 100000 in
set_option maxHeartbeats 1000000 in
theorem half_2 {M : Int} {w : World} (m1 : 1 ≤ M) (m2 : M ≤ 160) (hq : (M - 1) / 64 = 2) :
    Calls Try.prog 15 #[.int .i64 M] w fun e w' => e = .returned (.agg #[.int .u64 0, .int .u64 0, .int .u64 (oneAt M), .int .u64 0]) ∧ Below w.heap.size w w' := by
  have r0 : 0 ≤ (M - 1) % 64 := by omega
  have r1 : (M - 1) % 64 < 64 := by omega
  go_enter Try.func15, Try.ntmps15
  go_wp2
  exact bodyPost_ret (v := .agg #[.int .u64 0, .int .u64 0, .int .u64 (oneAt M), .int .u64 0]) (by simp [results, Try.results15, go_sem, oneAt]) rfl ⟨rfl, ((Below.refl _ _).alloc (Nat.le_refl _) _).alloc (by simp) _⟩

theorem half_w0 {r : Nat} (hr : r < 64) : (2 : Int) ^ r = wd0 (2 ^ r) ∧ 0 = wd1 (2 ^ r) ∧ 0 = wd2 (2 ^ r) ∧ 0 = wd3 (2 ^ r) := by
  refine words_eq (pow_word hr) word_zero word_zero word_zero ?_
  simp
theorem half_w1 {r : Nat} (hr : r < 64) : 0 = wd0 (2 ^ (64 + r)) ∧ (2 : Int) ^ r = wd1 (2 ^ (64 + r)) ∧ 0 = wd2 (2 ^ (64 + r)) ∧ 0 = wd3 (2 ^ (64 + r)) := by
  refine words_eq word_zero (pow_word hr) word_zero word_zero ?_
  rw [pow_64]
  simp
theorem half_w2 {r : Nat} (hr : r < 64) : 0 = wd0 (2 ^ (128 + r)) ∧ 0 = wd1 (2 ^ (128 + r)) ∧ (2 : Int) ^ r = wd2 (2 ^ (128 + r)) ∧ 0 = wd3 (2 ^ (128 + r)) := by
  refine words_eq word_zero word_zero (pow_word hr) word_zero ?_
  rw [pow_128]
  have e : ((18446744073709551616 * (18446744073709551616 * 2 ^ r) : Nat) : Int) = 18446744073709551616 * (18446744073709551616 * 2 ^ r) := by simp
  rw [e]
  omega

theorem big_halfN {m : Nat} (h : m ≤ 160) : Big (halfN m) := by
  unfold Big halfN
  have h1 := Nat.pow_lt_pow_right (a := 2) (by decide) (show m - 1 < 256 by omega)
  have e : (2 : Nat) ^ 256 = 115792089237316195423570985008687907853269984665640564039457584007913129639936 := by decide
  omega

theorem half_any {m : Nat} {M : Int} {w : World} (hM : Hid (M = (m : Int))) (m1 : 0 < m) (m2 : m ≤ 160) :
    Calls Try.prog 15 #[.int .i64 M] w fun e w' => e = .returned (.agg #[.int .u64 (wd0 (halfN m)), .int .u64 (wd1 (halfN m)), .int .u64 (wd2 (halfN m)), .int .u64 (wd3 (halfN m))]) ∧ Below w.heap.size w w' := by
  have e := hM.out
  obtain ⟨r, hr⟩ : ∃ r : Nat, r = (m - 1) % 64 := ⟨_, rfl⟩
  have hr4 : r < 64 := by omega
  have hM2 : (M - 1) % 64 = (r : Int) := by omega
  unfold halfN
  by_cases h1 : m ≤ 64
  · have T := half_0 (M := M) (w := w) (by omega) (by omega) (by omega)
    rw [oneAt_eq hM2 hr4] at T
    have h := half_w0 hr4
    rw [show m - 1 = r by omega, ← h.1, ← h.2.1, ← h.2.2.1, ← h.2.2.2]
    exact T
  · by_cases h2 : m ≤ 128
    · have T := half_1 (M := M) (w := w) (by omega) (by omega) (by omega)
      rw [oneAt_eq hM2 hr4] at T
      have h := half_w1 hr4
      rw [show m - 1 = 64 + r by omega, ← h.1, ← h.2.1, ← h.2.2.1, ← h.2.2.2]
      exact T
    · have T := half_2 (M := M) (w := w) (by omega) (by omega) (by omega)
      rw [oneAt_eq hM2 hr4] at T
      have h := half_w2 hr4
      rw [show m - 1 = 128 + r by omega, ← h.1, ← h.2.1, ← h.2.2.1, ← h.2.2.2]
      exact T

end Go.Proofs.Qxb6614289a
