/-
  Seat b6614289a: the plain laws on the ring of 2^m positions.
-/
import Derived.Test.Qxb6614289aW12
namespace Go.Proofs.Qxb6614289a

theorem dvd_M {m : Nat} (h : m ≤ 256) : 2 ^ m ∣ 115792089237316195423570985008687907853269984665640564039457584007913129639936 :=
  ⟨2 ^ (256 - m), by rw [← Nat.pow_add, show m + (256 - m) = 256 by omega]⟩

theorem low_sub {a b m : Nat} (h : m ≤ 256) : lowN (subN a b) m = (a + 115792089237316195423570985008687907853269984665640564039457584007913129639936 - b) % 2 ^ m := by
  unfold lowN subN
  exact Nat.mod_mod_of_dvd _ (dvd_M h)
theorem low_add {a b m : Nat} (h : m ≤ 256) : lowN (addN a b) m = (a + b) % 2 ^ m := by
  unfold lowN addN
  exact Nat.mod_mod_of_dvd _ (dvd_M h)

/-- Going from a the way that leads to b leads to b. -/
theorem arc_lands {a b m : Nat} (hm : m ≤ 256) (ha : Big a) : lowN (addN a (lowN (subN b a) m)) m = lowN b m := by
  unfold Big at ha
  rw [low_add hm, low_sub hm]
  unfold lowN
  obtain ⟨q, hq⟩ := dvd_M hm
  have e : (a + (b + 115792089237316195423570985008687907853269984665640564039457584007913129639936 - a) % 2 ^ m) % 2 ^ m = (a + (b + 115792089237316195423570985008687907853269984665640564039457584007913129639936 - a)) % 2 ^ m := by
    rw [Nat.add_mod, Nat.mod_mod, ← Nat.add_mod]
  rw [e, show a + (b + 115792089237316195423570985008687907853269984665640564039457584007913129639936 - a) = b + 115792089237316195423570985008687907853269984665640564039457584007913129639936 by omega, hq, Nat.add_mul_mod_self_left]

end Go.Proofs.Qxb6614289a
