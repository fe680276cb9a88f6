/-
  Seat b6614289a: plain laws on the shorter way round.
-/
import Derived.Test.Qxb6614289aX5
namespace Go.Proofs.Qxb6614289a

theorem mod_of_sum {x y k M : Nat} (hM : 0 < M) (h : x + y = M * k) : x % M + y % M = 0 ∨ x % M + y % M = M := by
  have h1 : (x % M + y % M) % M = 0 := by rw [← Nat.add_mod, h]; exact Nat.mul_mod_right _ _
  have h2 := Nat.mod_lt x hM
  have h3 := Nat.mod_lt y hM
  by_cases h4 : x % M + y % M < M
  · left; rw [Nat.mod_eq_of_lt h4] at h1; exact h1
  · right
    have h5 : (x % M + y % M - M) % M = 0 := by rw [← Nat.mod_eq_sub_mod (by omega)]; exact h1
    rw [Nat.mod_eq_of_lt (by omega)] at h5
    omega

/-- The two arcs make up the ring, or both are nought. -/
theorem arcs_sum {a b m : Nat} (hm : m ≤ 256) (ha : Big a) (hb : Big b) : lowN (subN a b) m + lowN (subN b a) m = 0 ∨ lowN (subN a b) m + lowN (subN b a) m = 2 ^ m := by
  unfold Big at ha hb
  rw [low_sub hm, low_sub hm]
  obtain ⟨q, hq⟩ := dvd_M hm
  refine mod_of_sum (k := 2 * q) (Nat.two_pow_pos m) ?_
  rw [← Nat.mul_assoc, Nat.mul_comm (2 ^ m) 2, Nat.mul_assoc, ← hq]
  omega

theorem pow_half {m : Nat} (h : 0 < m) : 2 ^ m = 2 * halfN m := by
  unfold halfN
  rw [← Nat.pow_succ']
  congr 1
  omega

theorem low_lt (v m : Nat) : lowN v m < 2 ^ m := Nat.mod_lt _ (Nat.two_pow_pos m)

/-- Anticlockwise just where b lies more than half the ring clockwise of a. -/
theorem dir_half {a b m : Nat} (m1 : 0 < m) (hm : m ≤ 256) (ha : Big a) (hb : Big b) : decide (halfN m < lowN (subN b a) m) = decide (lowN (subN a b) m < lowN (subN b a) m) := by
  have h := arcs_sum hm ha hb
  rw [pow_half m1] at h
  have h1 := low_lt (subN b a) m
  have h2 := low_lt (subN a b) m
  rw [pow_half m1] at h1 h2
  rw [decide_eq_decide]
  omega

/-- The two directions are one just where the arc is nought or half the ring. -/
theorem dir_even {a b m : Nat} (m1 : 0 < m) (hm : m ≤ 256) (ha : Big a) (hb : Big b) : (decide (lowN (subN b a) m = 0) || decide (lowN (subN b a) m = halfN m)) = decide (dir a b m = dir b a m) := by
  have h := arcs_sum hm ha hb
  rw [pow_half m1] at h
  have h1 := low_lt (subN b a) m
  have h2 := low_lt (subN a b) m
  rw [pow_half m1] at h1 h2
  rw [← Bool.decide_or, decide_eq_decide]
  unfold dir
  split <;> split <;> omega

theorem dir_01 (a b m : Nat) : dir a b m = 0 ∨ dir a b m = 1 := by
  unfold dir
  split
  · exact .inr rfl
  · exact .inl rfl

end Go.Proofs.Qxb6614289a
