/-
  Seat b6614289a: numbers of four words: plain arithmetic.
-/
import Derived.Test.Qxb6614289aW4
import Derived.Laws.BitsAllLaws
namespace Go.Proofs.Qxb6614289a

/-- The four words of a number. -/
def n0 (v : Nat) : Nat := v % 18446744073709551616
def n1 (v : Nat) : Nat := v / 18446744073709551616 % 18446744073709551616
def n2 (v : Nat) : Nat := v / 18446744073709551616 / 18446744073709551616 % 18446744073709551616
def n3 (v : Nat) : Nat := v / 18446744073709551616 / 18446744073709551616 / 18446744073709551616 % 18446744073709551616
def wd0 (v : Nat) : Int := (n0 v : Int)
def wd1 (v : Nat) : Int := (n1 v : Int)
def wd2 (v : Nat) : Int := (n2 v : Int)
def wd3 (v : Nat) : Int := (n3 v : Int)
/-- The number of four words. -/
def num (a b c d : Nat) : Nat := a + 18446744073709551616 * b + 340282366920938463463374607431768211456 * c + 6277101735386680763835789423207666416102355444464034512896 * d
/-- Below 2^256. -/
def Big (v : Nat) : Prop := v < 115792089237316195423570985008687907853269984665640564039457584007913129639936

theorem word_wd0 (v : Nat) : Word (wd0 v) := by unfold Word wd0 n0; omega
theorem word_wd1 (v : Nat) : Word (wd1 v) := by unfold Word wd1 n1; omega
theorem word_wd2 (v : Nat) : Word (wd2 v) := by unfold Word wd2 n2; omega
theorem word_wd3 (v : Nat) : Word (wd3 v) := by unfold Word wd3 n3; omega

theorem num_of {v : Nat} (h : Big v) : num (n0 v) (n1 v) (n2 v) (n3 v) = v := by
  unfold Big at h; unfold num n0 n1 n2 n3; omega

theorem of_num {a b c d : Nat} (ha : a < 18446744073709551616) (hb : b < 18446744073709551616) (hc : c < 18446744073709551616) (hd : d < 18446744073709551616) :
    n0 (num a b c d) = a ∧ n1 (num a b c d) = b ∧ n2 (num a b c d) = c ∧ n3 (num a b c d) = d := by
  unfold num n0 n1 n2 n3
  refine ⟨by omega, by omega, by omega, by omega⟩

theorem big_num {a b c d : Nat} (ha : a < 18446744073709551616) (hb : b < 18446744073709551616) (hc : c < 18446744073709551616) (hd : d < 18446744073709551616) : Big (num a b c d) := by
  unfold Big num; omega

/-- Every four words are the words of a number. -/
theorem words_of {x0 x1 x2 x3 : Int} (h0 : Word x0) (h1 : Word x1) (h2 : Word x2) (h3 : Word x3) : ∃ v, Big v ∧ x0 = wd0 v ∧ x1 = wd1 v ∧ x2 = wd2 v ∧ x3 = wd3 v := by
  obtain ⟨p0, q0⟩ := h0; obtain ⟨p1, q1⟩ := h1; obtain ⟨p2, q2⟩ := h2; obtain ⟨p3, q3⟩ := h3
  obtain ⟨a, rfl⟩ := Int.eq_ofNat_of_zero_le p0
  obtain ⟨b, rfl⟩ := Int.eq_ofNat_of_zero_le p1
  obtain ⟨c, rfl⟩ := Int.eq_ofNat_of_zero_le p2
  obtain ⟨d, rfl⟩ := Int.eq_ofNat_of_zero_le p3
  have h := of_num (a := a) (b := b) (c := c) (d := d) (by omega) (by omega) (by omega) (by omega)
  refine ⟨num a b c d, big_num (by omega) (by omega) (by omega) (by omega), ?_, ?_, ?_, ?_⟩
  · unfold wd0; rw [h.1]
  · unfold wd1; rw [h.2.1]
  · unfold wd2; rw [h.2.2.1]
  · unfold wd3; rw [h.2.2.2]

/-- Four words that make up v are its words. -/
theorem words_eq {v : Nat} {x0 x1 x2 x3 : Int} (h0 : Word x0) (h1 : Word x1) (h2 : Word x2) (h3 : Word x3) (hv : (v : Int) = x0 + 18446744073709551616 * x1 + 340282366920938463463374607431768211456 * x2 + 6277101735386680763835789423207666416102355444464034512896 * x3) :
    x0 = wd0 v ∧ x1 = wd1 v ∧ x2 = wd2 v ∧ x3 = wd3 v := by
  obtain ⟨p0, q0⟩ := h0; obtain ⟨p1, q1⟩ := h1; obtain ⟨p2, q2⟩ := h2; obtain ⟨p3, q3⟩ := h3
  obtain ⟨a, rfl⟩ := Int.eq_ofNat_of_zero_le p0
  obtain ⟨b, rfl⟩ := Int.eq_ofNat_of_zero_le p1
  obtain ⟨c, rfl⟩ := Int.eq_ofNat_of_zero_le p2
  obtain ⟨d, rfl⟩ := Int.eq_ofNat_of_zero_le p3
  have e : v = num a b c d := by unfold num; omega
  have h := of_num (a := a) (b := b) (c := c) (d := d) (by omega) (by omega) (by omega) (by omega)
  rw [e]
  unfold wd0 wd1 wd2 wd3
  rw [h.1, h.2.1, h.2.2.1, h.2.2.2]
  exact ⟨rfl, rfl, rfl, rfl⟩

theorem val_of {v : Nat} (h : Big v) : (v : Int) = wd0 v + 18446744073709551616 * wd1 v + 340282366920938463463374607431768211456 * wd2 v + 6277101735386680763835789423207666416102355444464034512896 * wd3 v := by
  have := num_of h
  unfold num at this
  unfold wd0 wd1 wd2 wd3
  omega

/-- The sum and the difference modulo 2^256. -/
def addN (a b : Nat) : Nat := (a + b) % 115792089237316195423570985008687907853269984665640564039457584007913129639936
def subN (a b : Nat) : Nat := (a + 115792089237316195423570985008687907853269984665640564039457584007913129639936 - b) % 115792089237316195423570985008687907853269984665640564039457584007913129639936

theorem big_addN (a b : Nat) : Big (addN a b) := Nat.mod_lt _ (by decide)
theorem big_subN (a b : Nat) : Big (subN a b) := Nat.mod_lt _ (by decide)

/-- A number that is four words and a multiple of 2^256: the four words are what is left of it. -/
theorem mod_step {t r : Nat} (hr : r = t % 115792089237316195423570985008687907853269984665640564039457584007913129639936) {s0 s1 s2 s3 c : Int} (h0 : Word s0) (h1 : Word s1) (h2 : Word s2) (h3 : Word s3)
    (ht : (t : Int) = s0 + 18446744073709551616 * s1 + 340282366920938463463374607431768211456 * s2 + 6277101735386680763835789423207666416102355444464034512896 * s3 + 115792089237316195423570985008687907853269984665640564039457584007913129639936 * c) :
    (r : Int) = s0 + 18446744073709551616 * s1 + 340282366920938463463374607431768211456 * s2 + 6277101735386680763835789423207666416102355444464034512896 * s3 := by
  obtain ⟨_, _⟩ := h0; obtain ⟨_, _⟩ := h1; obtain ⟨_, _⟩ := h2; obtain ⟨_, _⟩ := h3
  have hs0 : 0 ≤ s0 + 18446744073709551616 * s1 + 340282366920938463463374607431768211456 * s2 + 6277101735386680763835789423207666416102355444464034512896 * s3 := by omega
  have hs1 : s0 + 18446744073709551616 * s1 + 340282366920938463463374607431768211456 * s2 + 6277101735386680763835789423207666416102355444464034512896 * s3 < 115792089237316195423570985008687907853269984665640564039457584007913129639936 := by omega
  generalize s0 + 18446744073709551616 * s1 + 340282366920938463463374607431768211456 * s2 + 6277101735386680763835789423207666416102355444464034512896 * s3 = S at *
  omega

theorem add_words {a b : Nat} (ha : Big a) (hb : Big b) :
    aW (wd0 a) (wd0 b) 0 = wd0 (addN a b) ∧ aW (wd1 a) (wd1 b) (cW (wd0 a) (wd0 b) 0) = wd1 (addN a b) ∧ aW (wd2 a) (wd2 b) (cW (wd1 a) (wd1 b) (cW (wd0 a) (wd0 b) 0)) = wd2 (addN a b) ∧
      aW (wd3 a) (wd3 b) (cW (wd2 a) (wd2 b) (cW (wd1 a) (wd1 b) (cW (wd0 a) (wd0 b) 0))) = wd3 (addN a b) := by
  refine words_eq (word_aW _ _ _) (word_aW _ _ _) (word_aW _ _ _) (word_aW _ _ _) ?_
  have va := val_of ha
  have vb := val_of hb
  have A0 := word_wd0 a; have A1 := word_wd1 a; have A2 := word_wd2 a; have A3 := word_wd3 a
  have B0 := word_wd0 b; have B1 := word_wd1 b; have B2 := word_wd2 b; have B3 := word_wd3 b
  generalize wd0 a = a0 at *; generalize wd1 a = a1 at *; generalize wd2 a = a2 at *; generalize wd3 a = a3 at *
  generalize wd0 b = b0 at *; generalize wd1 b = b1 at *; generalize wd2 b = b2 at *; generalize wd3 b = b3 at *
  have K0 := bit_cW A0 B0 bit_0
  have e0 : aW a0 b0 0 = a0 + b0 - 18446744073709551616 * cW a0 b0 0 := by unfold aW cW; omega
  have S0 := word_aW a0 b0 0
  generalize cW a0 b0 0 = c0 at *
  have K1 := bit_cW A1 B1 K0
  have e1 : aW a1 b1 c0 = a1 + b1 + c0 - 18446744073709551616 * cW a1 b1 c0 := by unfold aW cW; omega
  have S1 := word_aW a1 b1 c0
  generalize cW a1 b1 c0 = c1 at *
  have K2 := bit_cW A2 B2 K1
  have e2 : aW a2 b2 c1 = a2 + b2 + c1 - 18446744073709551616 * cW a2 b2 c1 := by unfold aW cW; omega
  have S2 := word_aW a2 b2 c1
  generalize cW a2 b2 c1 = c2 at *
  have K3 := bit_cW A3 B3 K2
  have e3 : aW a3 b3 c2 = a3 + b3 + c2 - 18446744073709551616 * cW a3 b3 c2 := by unfold aW cW; omega
  have S3 := word_aW a3 b3 c2
  generalize cW a3 b3 c2 = c3 at *
  generalize aW a0 b0 0 = s0 at *; generalize aW a1 b1 c0 = s1 at *; generalize aW a2 b2 c1 = s2 at *; generalize aW a3 b3 c2 = s3 at *
  exact mod_step (by unfold addN; rfl) S0 S1 S2 S3 (c := c3) (by rw [Int.natCast_add, va, vb, e0, e1, e2, e3]; omega)

theorem sub_step {x y c : Int} (hx : Word x) (hy : Word y) (hc : Bit c) : sW x y c = x - y - c + 18446744073709551616 * bW x y c := by
  obtain ⟨_, _⟩ := hx; obtain ⟨_, _⟩ := hy; obtain ⟨_, _⟩ := hc
  unfold sW bW; split <;> omega

theorem sub_words {a b : Nat} (ha : Big a) (hb : Big b) :
    sW (wd0 a) (wd0 b) 0 = wd0 (subN a b) ∧ sW (wd1 a) (wd1 b) (bW (wd0 a) (wd0 b) 0) = wd1 (subN a b) ∧ sW (wd2 a) (wd2 b) (bW (wd1 a) (wd1 b) (bW (wd0 a) (wd0 b) 0)) = wd2 (subN a b) ∧
      sW (wd3 a) (wd3 b) (bW (wd2 a) (wd2 b) (bW (wd1 a) (wd1 b) (bW (wd0 a) (wd0 b) 0))) = wd3 (subN a b) := by
  refine words_eq (word_sW _ _ _) (word_sW _ _ _) (word_sW _ _ _) (word_sW _ _ _) ?_
  have va := val_of ha
  have vb := val_of hb
  have A0 := word_wd0 a; have A1 := word_wd1 a; have A2 := word_wd2 a; have A3 := word_wd3 a
  have B0 := word_wd0 b; have B1 := word_wd1 b; have B2 := word_wd2 b; have B3 := word_wd3 b
  generalize wd0 a = a0 at *; generalize wd1 a = a1 at *; generalize wd2 a = a2 at *; generalize wd3 a = a3 at *
  generalize wd0 b = b0 at *; generalize wd1 b = b1 at *; generalize wd2 b = b2 at *; generalize wd3 b = b3 at *
  have K0 := bit_bW a0 b0 0
  have e0 := sub_step A0 B0 bit_0
  have S0 := word_sW a0 b0 0
  generalize bW a0 b0 0 = c0 at *
  have K1 := bit_bW a1 b1 c0
  have e1 := sub_step A1 B1 K0
  have S1 := word_sW a1 b1 c0
  generalize bW a1 b1 c0 = c1 at *
  have K2 := bit_bW a2 b2 c1
  have e2 := sub_step A2 B2 K1
  have S2 := word_sW a2 b2 c1
  generalize bW a2 b2 c1 = c2 at *
  have K3 := bit_bW a3 b3 c2
  have e3 := sub_step A3 B3 K2
  have S3 := word_sW a3 b3 c2
  generalize bW a3 b3 c2 = c3 at *
  generalize sW a0 b0 0 = s0 at *; generalize sW a1 b1 c0 = s1 at *; generalize sW a2 b2 c1 = s2 at *; generalize sW a3 b3 c2 = s3 at *
  refine mod_step (by unfold subN; rfl) S0 S1 S2 S3 (c := 1 - c3) ?_
  have hle : b ≤ a + 115792089237316195423570985008687907853269984665640564039457584007913129639936 := by unfold Big at hb; omega
  rw [Int.ofNat_sub hle, Int.natCast_add, va, vb, e0, e1, e2, e3]
  omega

/-- The last borrow says which is less. -/
theorem borrow_lt {a b : Nat} (ha : Big a) (hb : Big b) : (bW (wd3 a) (wd3 b) (bW (wd2 a) (wd2 b) (bW (wd1 a) (wd1 b) (bW (wd0 a) (wd0 b) 0))) == 1) = decide (a < b) := by
  have va := val_of ha
  have vb := val_of hb
  have A0 := word_wd0 a; have A1 := word_wd1 a; have A2 := word_wd2 a; have A3 := word_wd3 a
  have B0 := word_wd0 b; have B1 := word_wd1 b; have B2 := word_wd2 b; have B3 := word_wd3 b
  generalize wd0 a = a0 at *; generalize wd1 a = a1 at *; generalize wd2 a = a2 at *; generalize wd3 a = a3 at *
  generalize wd0 b = b0 at *; generalize wd1 b = b1 at *; generalize wd2 b = b2 at *; generalize wd3 b = b3 at *
  have K0 := bit_bW a0 b0 0
  have e0 := sub_step A0 B0 bit_0
  have S0 := word_sW a0 b0 0
  generalize bW a0 b0 0 = c0 at *
  have K1 := bit_bW a1 b1 c0
  have e1 := sub_step A1 B1 K0
  have S1 := word_sW a1 b1 c0
  generalize bW a1 b1 c0 = c1 at *
  have K2 := bit_bW a2 b2 c1
  have e2 := sub_step A2 B2 K1
  have S2 := word_sW a2 b2 c1
  generalize bW a2 b2 c1 = c2 at *
  have K3 := bit_bW a3 b3 c2
  have e3 := sub_step A3 B3 K2
  have S3 := word_sW a3 b3 c2
  generalize bW a3 b3 c2 = c3 at *
  generalize sW a0 b0 0 = s0 at *; generalize sW a1 b1 c0 = s1 at *; generalize sW a2 b2 c1 = s2 at *; generalize sW a3 b3 c2 = s3 at *
  have key : (a : Int) - b = s0 + 18446744073709551616 * s1 + 340282366920938463463374607431768211456 * s2 + 6277101735386680763835789423207666416102355444464034512896 * s3 - 115792089237316195423570985008687907853269984665640564039457584007913129639936 * c3 := by
    rw [va, vb, e0, e1, e2, e3]; omega
  clear e0 e1 e2 e3 va vb
  obtain ⟨_, _⟩ := S0; obtain ⟨_, _⟩ := S1; obtain ⟨_, _⟩ := S2; obtain ⟨_, _⟩ := S3; obtain ⟨_, _⟩ := K3
  have hc : c3 = 0 ∨ c3 = 1 := by omega
  rw [Bool.eq_iff_iff, beq_iff_eq, decide_eq_true_iff]
  rcases hc with h | h
  · subst h
    constructor
    · intro h; omega
    · intro h; omega
  · subst h
    constructor
    · intro _; omega
    · intro _; rfl

end Go.Proofs.Qxb6614289a
