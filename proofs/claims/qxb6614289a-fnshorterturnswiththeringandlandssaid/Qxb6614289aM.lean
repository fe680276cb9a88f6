/-
  Seat b6614289a: a number modulo a power of two, word by word; what a shift up and a shift down leave.
-/
import Derived.Test.Qxb6614289aN
namespace Go.Proofs.Qxb6614289a

theorem pow_pos (k : Nat) : (0 : Int) < 2 ^ k := Int.pow_pos (by decide)
theorem pow_split {k j : Nat} (h : k + j = 64) : (2 : Int) ^ k * 2 ^ j = 18446744073709551616 := by
  rw [← Int.pow_add, h]; decide
theorem npow_split {k j : Nat} (h : k + j = 64) : 2 ^ k * 2 ^ j = 18446744073709551616 := by
  rw [← Nat.pow_add, h]

theorem orW_join {a b : Int} {i : Nat} (ha : Word a) (hb : Word b) (hm : a % 2 ^ i = 0) (hl : b < 2 ^ i) : orW a b = a + b := by
  obtain ⟨a0, a1⟩ := ha; obtain ⟨b0, b1⟩ := hb
  unfold orW
  rw [u64_or a b a0 a1 b0 b1]
  obtain ⟨A, rfl⟩ := Int.eq_ofNat_of_zero_le a0
  obtain ⟨C, rfl⟩ := Int.eq_ofNat_of_zero_le b0
  have e1 : A % 2 ^ i = 0 := by
    have : ((A % 2 ^ i : Nat) : Int) = 0 := by simpa using hm
    omega
  have e2 : C < 2 ^ i := by
    have : (C : Int) < ((2 ^ i : Nat) : Int) := by simpa using hl
    omega
  rw [Int.toNat_natCast, Int.toNat_natCast, nat_join i A C e1 e2]
  simp

theorem orW_join' {a b : Int} {i : Nat} (ha : Word a) (hb : Word b) (hm : a % 2 ^ i = 0) (hl : b < 2 ^ i) : orW b a = a + b := by
  have h := orW_join ha hb hm hl
  obtain ⟨a0, a1⟩ := ha; obtain ⟨b0, b1⟩ := hb
  unfold orW at h ⊢
  rw [u64_or b a b0 b1 a0 a1, Nat.or_comm, ← u64_or a b a0 a1 b0 b1]
  exact h

section
variable {k j : Nat} {x y : Int}

theorem shl_eq (hkj : k + j = 64) : shlW x k = x % 2 ^ j * 2 ^ k := by
  unfold shlW
  rw [IntKind.wrap_u64, ← pow_split hkj, Int.mul_comm x, Int.mul_emod_mul_of_pos _ _ (pow_pos k), Int.mul_comm]

theorem mod_bd (j : Nat) (x : Int) : 0 ≤ x % 2 ^ j ∧ x % 2 ^ j < 2 ^ j := ⟨Int.emod_nonneg _ (Int.ne_of_gt (pow_pos j)), Int.emod_lt_of_pos _ (pow_pos j)⟩

theorem shrshl (hkj : k + j = 64) : shrW (shlW x k) k = x % 2 ^ j := by
  unfold shrW
  rw [shl_eq hkj, Int.mul_ediv_cancel _ (Int.ne_of_gt (pow_pos k))]

theorem shr_bd (hkj : k + j = 64) (hx : Word x) : 0 ≤ shrW x j ∧ shrW x j < 2 ^ k := by
  obtain ⟨x0, x1⟩ := hx
  unfold shrW
  refine ⟨Int.ediv_nonneg x0 (Int.le_of_lt (pow_pos j)), ?_⟩
  rw [Int.ediv_lt_iff_lt_mul (pow_pos j), pow_split hkj]
  exact x1

theorem word_of_lt {i : Nat} (hi : i ≤ 64) (h0 : 0 ≤ x) (h1 : x < 2 ^ i) : Word x := by
  refine ⟨h0, Int.lt_of_lt_of_le h1 ?_⟩
  have h := Nat.pow_le_pow_right (n := 2) (by decide) hi
  have h2 : ((2 ^ i : Nat) : Int) ≤ ((2 ^ 64 : Nat) : Int) := by omega
  simpa using h2

theorem word_shl : Word (shlW x k) := by
  unfold shlW Word
  rw [IntKind.wrap_u64]
  omega

theorem shl_mod (hkj : k + j = 64) : shlW x k % 2 ^ k = 0 := by
  rw [shl_eq hkj]; exact Int.mul_emod_left _ _

theorem join_eq (hkj : k + j = 64) (hx : Word x) : orW (shlW y k) (shrW x j) = y % 2 ^ j * 2 ^ k + x / 2 ^ j := by
  have hb := shr_bd hkj hx
  rw [orW_join (i := k) word_shl (word_of_lt (by omega) hb.1 hb.2) (shl_mod hkj) hb.2, shl_eq hkj]
  rfl

theorem shr_join (hkj : k + j = 64) (hx : Word x) : shrW (orW (shlW y k) (shrW x j)) k = y % 2 ^ j := by
  have hb := shr_bd hkj hx
  rw [join_eq hkj hx]
  unfold shrW at hb ⊢
  rw [Int.add_comm, Int.add_mul_ediv_right _ _ (Int.ne_of_gt (pow_pos k)), Int.ediv_eq_zero_of_lt hb.1 hb.2, Int.zero_add]

theorem shl_join (hkj : k + j = 64) (hx : Word x) : shlW (orW (shlW y k) (shrW x j)) j = x / 2 ^ j * 2 ^ j := by
  have hb := shr_bd hkj hx
  rw [shl_eq (k := j) (j := k) (by omega), join_eq hkj hx, Int.add_comm, Int.add_mul_emod_self_right]
  unfold shrW at hb
  rw [Int.emod_eq_of_lt hb.1 hb.2]

theorem back (hj : j ≤ 64) (hx : Word x) : orW (x % 2 ^ j) (x / 2 ^ j * 2 ^ j) = x := by
  have hb := mod_bd j x
  have hw : Word (x / 2 ^ j * 2 ^ j) := by
    obtain ⟨x0, x1⟩ := hx
    have h1 : 0 ≤ x / 2 ^ j := Int.ediv_nonneg x0 (Int.le_of_lt (pow_pos j))
    have h2 : x / 2 ^ j * 2 ^ j ≤ x := Int.ediv_mul_le x (Int.ne_of_gt (pow_pos j))
    exact ⟨Int.mul_nonneg h1 (Int.le_of_lt (pow_pos j)), Int.lt_of_le_of_lt h2 x1⟩
  rw [orW_join' (i := j) hw (word_of_lt hj hb.1 hb.2) (Int.mul_emod_left _ _) hb.2]
  have := Int.emod_add_mul_ediv x (2 ^ j)
  rw [Int.mul_comm] at this
  omega

end

/-- The number modulo 2^m. -/
def lowN (v m : Nat) : Nat := v % 2 ^ m

theorem big_lowN {v : Nat} (m : Nat) (h : Big v) : Big (lowN v m) := Nat.lt_of_le_of_lt (Nat.mod_le _ _) h

theorem mod_word (a : Nat) {j : Nat} (hj : j ≤ 64) : a % 2 ^ j = a % 18446744073709551616 % 2 ^ j := by
  have hd : 2 ^ j ∣ 18446744073709551616 := ⟨2 ^ (64 - j), (npow_split (by omega)).symm⟩
  exact (Nat.mod_mod_of_dvd a hd).symm

theorem word_mod {x : Int} (hx : Word x) (j : Nat) : Word (x % 2 ^ j) := by
  have hb := mod_bd j x
  refine ⟨hb.1, ?_⟩
  obtain ⟨x0, x1⟩ := hx
  obtain ⟨X, rfl⟩ := Int.eq_ofNat_of_zero_le x0
  have h1 : X % 2 ^ j ≤ X := Nat.mod_le _ _
  have h2 : ((X % 2 ^ j : Nat) : Int) = (X : Int) % 2 ^ j := by simp
  omega

theorem word_zero : Word 0 := by unfold Word; decide

theorem pow_128 (j : Nat) : 2 ^ (128 + j) = 18446744073709551616 * (18446744073709551616 * 2 ^ j) := by
  rw [Nat.pow_add, ← Nat.mul_assoc]
theorem pow_64 (j : Nat) : 2 ^ (64 + j) = 18446744073709551616 * 2 ^ j := by rw [Nat.pow_add]

/-- m from 128 to 192. -/
theorem low_A (v : Nat) {j : Nat} (hj : j ≤ 64) : wd0 v = wd0 (lowN v (128 + j)) ∧ wd1 v = wd1 (lowN v (128 + j)) ∧ wd2 v % 2 ^ j = wd2 (lowN v (128 + j)) ∧ 0 = wd3 (lowN v (128 + j)) := by
  refine words_eq (word_wd0 v) (word_wd1 v) (word_mod (word_wd2 v) j) word_zero ?_
  unfold lowN
  rw [pow_128, Nat.mod_mul, Nat.mod_mul, mod_word (v / 18446744073709551616 / 18446744073709551616) hj]
  unfold wd0 wd1 wd2 n0 n1 n2
  have e : (((v / 18446744073709551616 / 18446744073709551616 % 18446744073709551616 : Nat) : Int) % 2 ^ j) = ((v / 18446744073709551616 / 18446744073709551616 % 18446744073709551616 % 2 ^ j : Nat) : Int) := by simp
  rw [e]
  generalize v / 18446744073709551616 / 18446744073709551616 % 18446744073709551616 % 2 ^ j = t
  omega

/-- m from 64 to 128. -/
theorem low_B (v : Nat) {j : Nat} (hj : j ≤ 64) : wd0 v = wd0 (lowN v (64 + j)) ∧ wd1 v % 2 ^ j = wd1 (lowN v (64 + j)) ∧ 0 = wd2 (lowN v (64 + j)) ∧ 0 = wd3 (lowN v (64 + j)) := by
  refine words_eq (word_wd0 v) (word_mod (word_wd1 v) j) word_zero word_zero ?_
  unfold lowN
  rw [pow_64, Nat.mod_mul, mod_word (v / 18446744073709551616) hj]
  unfold wd0 wd1 n0 n1
  have e : (((v / 18446744073709551616 % 18446744073709551616 : Nat) : Int) % 2 ^ j) = ((v / 18446744073709551616 % 18446744073709551616 % 2 ^ j : Nat) : Int) := by simp
  rw [e]
  generalize v / 18446744073709551616 % 18446744073709551616 % 2 ^ j = t
  omega

/-- m up to 64. -/
theorem low_C (v : Nat) {j : Nat} (hj : j ≤ 64) : wd0 v % 2 ^ j = wd0 (lowN v j) ∧ 0 = wd1 (lowN v j) ∧ 0 = wd2 (lowN v j) ∧ 0 = wd3 (lowN v j) := by
  refine words_eq (word_mod (word_wd0 v) j) word_zero word_zero word_zero ?_
  unfold lowN
  rw [mod_word v hj]
  unfold wd0 n0
  have e : (((v % 18446744073709551616 : Nat) : Int) % 2 ^ j) = ((v % 18446744073709551616 % 2 ^ j : Nat) : Int) := by simp
  rw [e]
  omega

end Go.Proofs.Qxb6614289a
