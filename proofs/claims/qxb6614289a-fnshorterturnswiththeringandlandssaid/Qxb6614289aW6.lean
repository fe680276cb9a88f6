/-
  Seat b6614289a: Bits, wrap, sub, add.
-/
import Derived.Test.Qxb6614289aW5
import Derived.Deep.RegionWith
namespace Go.Proofs.Qxb6614289a
open Go.RowKit

theorem bcell {W w1 : World} (hb : Below W.heap.size W w1) : (∀ b o, b < W.heap.size → w1.cell? ⟨b, o, none⟩ = W.cell? ⟨b, o, none⟩) ∧ (∀ b o, b < W.heap.size → w1.frozen? ⟨b, o, none⟩ = W.frozen? ⟨b, o, none⟩) :=
  ⟨fun b o h => hb.cell (p := ⟨b, o, none⟩) h, fun b o h => hb.frozen (p := ⟨b, o, none⟩) h⟩

theorem below_call {w w0 w2 : World} (h : Below w.heap.size w w0) (hb : Below w0.heap.size w0 w2) : Below w.heap.size w w2 := h.trans (hb.mono h.size)

theorem bits_any {S : Int} {m : Nat} {w : World} (hS : Hid (S = 160 - (m : Int))) (m1 : 0 < m) (m2 : m ≤ 160) :
    Calls Try.prog 27 #[.agg #[.int .u64 S]] w fun e w' => e = .returned (.int .i64 (m : Int)) ∧ w' = w.alloc (.cells #[.int .u64 S] 27) := by
  have h0 : 0 ≤ S := by rw [hS.out]; omega
  have h1 : S < 160 := by rw [hS.out]; omega
  go_enter Try.func27, Try.ntmps27
  go_wp2
  go_ret
  have e : 160 - S = (m : Int) := by rw [hS.out]; omega
  rw [← e]
  exact ⟨rfl, rfl⟩

set_option maxRecDepth 100000 in
set_option maxHeartbeats 1000000 in
theorem wrap_any {S : Int} {v m : Nat} {w : World} (hS : Hid (S = 160 - (m : Int))) (m1 : 0 < m) (m2 : m ≤ 160) :
    Calls Try.prog 22 #[.agg #[.int .u64 S], .agg #[.int .u64 (wd0 v), .int .u64 (wd1 v), .int .u64 (wd2 v), .int .u64 (wd3 v)]] w fun e w' =>
      e = .returned (.agg #[.int .u64 (wd0 (lowN v m)), .int .u64 (wd1 (lowN v m)), .int .u64 (wd2 (lowN v m)), .int .u64 (wd3 (lowN v m))]) ∧ Below w.heap.size w w' := by
  go_enter Try.func22, Try.ntmps22
  go_wp2
  go_region_with (first
    | (go_at_call 27; refine (bits_any hS m1 m2).mono ?_; rintro e w1 ⟨rfl, rfl⟩)
    | (go_at_call 26; refine (low_any m1 m2).mono ?_; rintro e w2 ⟨rfl, hb⟩; obtain ⟨hc, hf⟩ := bcell hb; have hz := hb.size; simp at hz))
  all_goals
    go_wp2
    exact bodyPost_ret (v := .agg #[.int .u64 (wd0 (lowN v m)), .int .u64 (wd1 (lowN v m)), .int .u64 (wd2 (lowN v m)), .int .u64 (wd3 (lowN v m))]) (by simp [results, Try.results22, go_sem, hc]) rfl
      ⟨rfl, below_set4 (below_call (by repeat (first | exact Below.refl _ _ | apply Below.drew | refine Below.alloc ?_ (by simp <;> omega) _)) hb) (by omega) _ _ _ _⟩
end Go.Proofs.Qxb6614289a
