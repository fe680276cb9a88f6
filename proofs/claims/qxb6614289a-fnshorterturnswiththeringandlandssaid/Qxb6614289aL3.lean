/-
  Seat b6614289a: the shorter way turns with the ring.
-/
import Derived.Test.Qxb6614289aL2
namespace Go.Proofs.Qxb6614289a

theorem low_sub_int {x y m : Nat} (hm : m ≤ 256) (hy : Big y) : ((lowN (subN x y) m : Nat) : Int) = ((x : Int) - (y : Int)) % ((2 ^ m : Nat) : Int) := by
  unfold Big at hy
  rw [low_sub hm]
  obtain ⟨q, hq⟩ := dvd_M hm
  rw [Int.natCast_emod, Int.ofNat_sub (by omega), Int.natCast_add, hq, Int.natCast_mul]
  rw [show (x : Int) + ((2 ^ m : Nat) : Int) * (q : Int) - (y : Int) = ((x : Int) - y) + ((2 ^ m : Nat) : Int) * q by omega, Int.add_mul_emod_self_left]

theorem low_turned {a b c m : Nat} (hm : m ≤ 256) (hb : Big b) : lowN (subN (lowN (addN a c) m) (lowN (addN b c) m)) m = lowN (subN a b) m := by
  have h1 := low_sub_int (x := lowN (addN a c) m) (y := lowN (addN b c) m) hm (big_lowN m (big_addN b c))
  have h2 := low_sub_int (x := a) (y := b) hm hb
  have e : ((lowN (addN a c) m : Nat) : Int) - ((lowN (addN b c) m : Nat) : Int) = (((a + c : Nat) : Int) % ((2 ^ m : Nat) : Int)) - (((b + c : Nat) : Int) % ((2 ^ m : Nat) : Int)) := by
    rw [low_add hm, low_add hm, Int.natCast_emod, Int.natCast_emod]
  rw [e, ← Int.sub_emod, show ((a + c : Nat) : Int) - ((b + c : Nat) : Int) = (a : Int) - b by omega, ← h2] at h1
  omega

theorem dir_turned {a b c m : Nat} (hm : m ≤ 256) (ha : Big a) (hb : Big b) : dir (lowN (addN a c) m) (lowN (addN b c) m) m = dir a b m := by
  unfold dir
  rw [low_turned hm hb, low_turned hm ha]

/-- Anticlockwise: the arc is less than half the ring. -/
theorem anti_less {a b m : Nat} (m1 : 0 < m) (hm : m ≤ 256) (ha : Big a) (hb : Big b) (h : decide (lowN (subN a b) m < lowN (subN b a) m) = true) : decide (lowN (subN a b) m < halfN m) = true := by
  have h2 := arcs_sum hm ha hb
  rw [pow_half m1] at h2
  have h3 := of_decide_eq_true h
  exact decide_eq_true (by omega)

end Go.Proofs.Qxb6614289a
