/-
  Seat b6614289a: math/bits.Add64 and Sub64 at this dump; the words' plain functions.
-/
import Derived.Test.Qxb6614289aW1
import Derived.Laws.Externs
namespace Go.Proofs.Qxb6614289a
open Go.RowKit

/-- The difference of two words and a borrow, and the borrow out. -/
def sW (x y c : Int) : Int := (x - y - c) % 18446744073709551616
def bW (x y c : Int) : Int := if x < y + c then 1 else 0
/-- The sum of two words and a carry, and the carry out. -/
def aW (x y c : Int) : Int := (x + y + c) % 18446744073709551616
def cW (x y c : Int) : Int := (x + y + c) / 18446744073709551616
/-- A word. -/
def Word (x : Int) : Prop := 0 ≤ x ∧ x < 18446744073709551616
/-- A carry or borrow. -/
def Bit (c : Int) : Prop := 0 ≤ c ∧ c ≤ 1

theorem bit_bW (x y c : Int) : Bit (bW x y c) := by unfold Bit bW; split <;> decide
theorem bit_cW {x y c : Int} (hx : Word x) (hy : Word y) (hc : Bit c) : Bit (cW x y c) := by
  unfold Bit cW; obtain ⟨_, _⟩ := hx; obtain ⟨_, _⟩ := hy; obtain ⟨_, _⟩ := hc; omega
theorem bit_0 : Bit 0 := by unfold Bit; decide
theorem word_sW (x y c : Int) : Word (sW x y c) := by unfold Word sW; omega
theorem word_aW (x y c : Int) : Word (aW x y c) := by unfold Word aW; omega

/-- The model's entry for math/bits.Sub64. -/
def subEntry : Array Value → Sem Value := fun args => do
  let (x, y, b) ← Extern.MathBitsCarry.three "Sub64" args
  pure (Extern.MathBitsCarry.pair ((x + Extern.MathBitsCarry.m64 - y - b) % Extern.MathBitsCarry.m64) (if x < y + b then 1 else 0))

theorem run_subEntry {P : Program} (x y b : Nat) (hb : b ≤ 1) (w : World) :
    (subEntry #[.int .u64 x, .int .u64 y, .int .u64 b]).run P w =
      .ok (.tuple #[.int .u64 (((x + 18446744073709551616 - y - b) % 18446744073709551616 : Nat) : Int), .int .u64 ((if x < y + b then 1 else 0 : Nat) : Int)]) w := by
  have : b = 0 ∨ b = 1 := by omega
  rcases this with rfl | rfl <;> rfl

theorem sub64 {x y b : Int} (hx : Word x) (hy : Word y) (hb : Bit b) (w : World) : (callFunc 25 #[.int .u64 x, .int .u64 y, .int .u64 b]).run Try.prog w =
    .ok (.value (.tuple #[.int .u64 (sW x y b), .int .u64 (bW x y b)])) w := by
  obtain ⟨h1, h2⟩ := hx; obtain ⟨h3, h4⟩ := hy; obtain ⟨h5, h6⟩ := hb
  obtain ⟨x, rfl⟩ := Int.eq_ofNat_of_zero_le h1
  obtain ⟨y, rfl⟩ := Int.eq_ofNat_of_zero_le h3
  obtain ⟨b, rfl⟩ := Int.eq_ofNat_of_zero_le h5
  have e1 : (((x + 18446744073709551616 - y - b) % 18446744073709551616 : Nat) : Int) = sW x y b := by unfold sW; omega
  have e2 : ((if x < y + b then 1 else 0 : Nat) : Int) = bW x y b := by unfold bW; split <;> split <;> omega
  rw [run_callFunc_extern Try.func25 (by kernel_rfl) (by kernel_rfl) (by kernel_rfl) (e := subEntry) (by kernel_rfl), run_subEntry x y b (by omega), e1, e2]
  rfl

theorem add64 {x y c : Int} (hx : Word x) (hy : Word y) (hc : Bit c) (w : World) : (callFunc 28 #[.int .u64 x, .int .u64 y, .int .u64 c]).run Try.prog w =
    .ok (.value (.tuple #[.int .u64 (aW x y c), .int .u64 (cW x y c)])) w := by
  obtain ⟨h1, h2⟩ := hx; obtain ⟨h3, h4⟩ := hy; obtain ⟨h5, h6⟩ := hc
  rw [run_callFunc_extern Try.func28 (by kernel_rfl) (by kernel_rfl) (by kernel_rfl) (e := add64Entry) (by kernel_rfl), run_add64 x y c h1 h3 h5 h6]
  rfl

end Go.Proofs.Qxb6614289a
