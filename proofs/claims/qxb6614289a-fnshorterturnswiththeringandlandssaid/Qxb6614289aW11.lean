/-
  Seat b6614289a: '==' on [4]uint64, by the numbers.
-/
import Derived.Test.Qxb6614289aW10
import Derived.ChangeKeysEq
namespace Go.Proofs.Qxb6614289a
open Go.RowKit

theorem part23_0 (w : World) (c0 c1 c2 c3 : Value) : (part 23 #[c0, c1, c2, c3] 0).run Try.prog w = .ok c0 w := by kernel_rfl
theorem part23_1 (w : World) (c0 c1 c2 c3 : Value) : (part 23 #[c0, c1, c2, c3] 1).run Try.prog w = .ok c1 w := by kernel_rfl
theorem part23_2 (w : World) (c0 c1 c2 c3 : Value) : (part 23 #[c0, c1, c2, c3] 2).run Try.prog w = .ok c2 w := by kernel_rfl
theorem part23_3 (w : World) (c0 c1 c2 c3 : Value) : (part 23 #[c0, c1, c2, c3] 3).run Try.prog w = .ok c3 w := by kernel_rfl

theorem cells23 : Try.prog.cellsOf 23 = 1 := by kernel_rfl

theorem eql4 (w : World) (x0 x1 x2 x3 y0 y1 y2 y3 : Int) : (binOp .eql 24 (.agg #[.int .u64 x0, .int .u64 x1, .int .u64 x2, .int .u64 x3]) (.agg #[.int .u64 y0, .int .u64 y1, .int .u64 y2, .int .u64 y3])).run Try.prog w =
    .ok (.bool (decide (x0 = y0) && (decide (x1 = y1) && (decide (x2 = y2) && decide (x3 = y3))))) w := by
  obtain ⟨i, hi⟩ : ∃ i, Try.prog.info? 23 = some i := Option.isSome_iff_exists.1 (by kernel_rfl)
  have he : ∀ a b : Int, (Op.equalIn 9999 23 (.int .u64 a) (.int .u64 b)).run Try.prog w = .ok (a == b) w := fun a b => run_equalIn_int w 9998 23 .u64 .u64 a b Try.underlying23
  rw [run_eql_struct, run_equalIn_array w 9999 _ _ Try.underlying24 hi, cells23]
  have hr : List.range 4 = [0, 1, 2, 3] := by decide
  rw [hr]
  simp only [Op.eqItems, Nat.mul_one, Sem.run_bind, part23_0, he, Result.andThen_ok]
  by_cases h0 : x0 = y0 <;> by_cases h1 : x1 = y1 <;> by_cases h2 : x2 = y2 <;> by_cases h3 : x3 = y3 <;> simp [h0, h1, h2, h3, part23_1, part23_2, part23_3, he]

theorem words_inj {a b : Nat} (ha : Big a) (hb : Big b) (h0 : wd0 a = wd0 b) (h1 : wd1 a = wd1 b) (h2 : wd2 a = wd2 b) (h3 : wd3 a = wd3 b) : a = b := by
  have va := val_of ha
  have vb := val_of hb
  rw [h0, h1, h2, h3] at va
  omega

/-- '==' at two numbers. -/
theorem eqlN {a b : Nat} (ha : Big a) (hb : Big b) (w : World) : (binOp .eql 24 (.agg #[.int .u64 (wd0 a), .int .u64 (wd1 a), .int .u64 (wd2 a), .int .u64 (wd3 a)]) (.agg #[.int .u64 (wd0 b), .int .u64 (wd1 b), .int .u64 (wd2 b), .int .u64 (wd3 b)])).run Try.prog w =
    .ok (.bool (decide (a = b))) w := by
  rw [eql4]
  congr 2
  rw [Bool.eq_iff_iff]
  simp only [Bool.and_eq_true, decide_eq_true_eq]
  constructor
  · rintro ⟨h0, h1, h2, h3⟩
    exact words_inj ha hb h0 h1 h2 h3
  · rintro rfl
    exact ⟨rfl, rfl, rfl, rfl⟩

end Go.Proofs.Qxb6614289a
