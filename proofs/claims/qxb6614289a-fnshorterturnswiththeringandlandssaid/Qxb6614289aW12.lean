/-
  Seat b6614289a: zzOnRing, ZZspace, ZZid, ZZwords, ZZadd.
-/
import Derived.Test.Qxb6614289aW11
namespace Go.Proofs.Qxb6614289a
open Go.RowKit

/-- One block of four words: it stays as it was laid. -/
def one (w : World) (t : TypeId) (v : Nat) : World := w.alloc (.cells (W4 (wd0 v) (wd1 v) (wd2 v) (wd3 v)) t)
structure S1 (w : World) (t : TypeId) (v : Nat) (w' : World) : Prop where
  low : Below (w.heap.size + 1) (one w t v) w'
theorem S1.start (w : World) (t : TypeId) (v : Nat) : S1 w t v (one w t v).drew := ⟨(Below.refl _ _).drew⟩
theorem S1.size {w w' : World} {t : TypeId} {v : Nat} (h : S1 w t v w') : w.heap.size + 1 ≤ w'.heap.size := by
  have := h.low.size
  unfold one at this
  simpa using this
theorem S1.call {w w1 w2 : World} {t : TypeId} {v : Nat} (h : S1 w t v w1) (hb : Below w1.heap.size w1 w2) : S1 w t v w2 := ⟨h.low.trans (hb.mono h.size)⟩
theorem S1.blk {w w' : World} {t : TypeId} {v : Nat} (h : S1 w t v w') : Blk w' w.heap.size t (W4 (wd0 v) (wd1 v) (wd2 v) (wd3 v)) := (Blk.new w t _).below h.low (by omega)
theorem S1.toBelow {w w' : World} {t : TypeId} {v : Nat} (h : S1 w t v w') : Below w.heap.size w w' := ((Below.refl _ _).alloc (Nat.le_refl _) _).trans (h.low.mono (by omega))

set_option maxRecDepth 100000 in
set_option maxHeartbeats 1000000 in
theorem onRing_any {v m : Nat} {M : Int} {w : World} (hM : Hid (M = (m : Int))) (m1 : 0 < m) (m2 : m ≤ 160) (hv : Big v) :
    Calls Try.prog 6 #[.agg #[.int .u64 (wd0 v), .int .u64 (wd1 v), .int .u64 (wd2 v), .int .u64 (wd3 v)], .int .i64 M] w fun e w' =>
      e = .returned (.bool (decide (lowN v m = v))) ∧ Below w.heap.size w w' := by
  have a0 : ∀ w', S1 w 24 v w' → w'.cell? ⟨w.heap.size, 0, none⟩ = some (.int .u64 (wd0 v)) := fun w' h => h.blk.cell 0
  have a1 : ∀ w', S1 w 24 v w' → w'.cell? ⟨w.heap.size, 1, none⟩ = some (.int .u64 (wd1 v)) := fun w' h => h.blk.cell 1
  have a2 : ∀ w', S1 w 24 v w' → w'.cell? ⟨w.heap.size, 2, none⟩ = some (.int .u64 (wd2 v)) := fun w' h => h.blk.cell 2
  have a3 : ∀ w', S1 w 24 v w' → w'.cell? ⟨w.heap.size, 3, none⟩ = some (.int .u64 (wd3 v)) := fun w' h => h.blk.cell 3
  have eq := eqlN (big_lowN m hv) hv
  go_enter Try.func6, Try.ntmps6
  go_wp2
  go_region_held3 (S1 w 24 v) (first
      | exact g2
      | exact S1.start w 24 v)
    (first | (go_at_call 12; refine (mask_any hM m1 m2).mono ?_; rintro e w2 ⟨rfl, hb2⟩; have g2 : S1 w 24 v w2 := (by refine S1.call ?_ hb2; assumption)))
  go_wp2
  go_ret
  exact ⟨rfl, S1.toBelow (by assumption)⟩

theorem space_any {S : Int} {w : World} : Calls Try.prog 7 #[.int .u64 S] w fun e w' => e = .returned (.agg #[.int .u64 S]) ∧ Below w.heap.size w w' := by
  go_enter Try.func7, Try.ntmps7
  go_wp2
  exact bodyPost_ret (v := .agg #[.int .u64 S]) (by simp [results, Try.results7, go_sem]) rfl ⟨rfl, (Below.refl _ _).alloc (Nat.le_refl _) _⟩

theorem id_any {v : Nat} {w : World} : Calls Try.prog 8 #[.agg #[.int .u64 (wd0 v), .int .u64 (wd1 v), .int .u64 (wd2 v), .int .u64 (wd3 v)]] w fun e w' => e = .returned (.agg #[.int .u64 (wd0 v), .int .u64 (wd1 v), .int .u64 (wd2 v), .int .u64 (wd3 v)]) ∧ Below w.heap.size w w' := by
  go_enter Try.func8, Try.ntmps8
  go_wp2
  exact bodyPost_ret (v := .agg #[.int .u64 (wd0 v), .int .u64 (wd1 v), .int .u64 (wd2 v), .int .u64 (wd3 v)]) (by simp [results, Try.results8, go_sem]) rfl ⟨rfl, ((Below.refl _ _).alloc (Nat.le_refl _) _).alloc (by simp) _⟩

theorem words_any {v : Nat} {w : World} : Calls Try.prog 10 #[.agg #[.int .u64 (wd0 v), .int .u64 (wd1 v), .int .u64 (wd2 v), .int .u64 (wd3 v)]] w fun e w' => e = .returned (.agg #[.int .u64 (wd0 v), .int .u64 (wd1 v), .int .u64 (wd2 v), .int .u64 (wd3 v)]) ∧ Below w.heap.size w w' := by
  go_enter Try.func10, Try.ntmps10
  go_wp2
  exact bodyPost_ret (v := .agg #[.int .u64 (wd0 v), .int .u64 (wd1 v), .int .u64 (wd2 v), .int .u64 (wd3 v)]) (by simp [results, Try.results10, go_sem]) rfl ⟨rfl, ((Below.refl _ _).alloc (Nat.le_refl _) _).alloc (by simp) _⟩

set_option maxRecDepth 100000 in
set_option maxHeartbeats 1000000 in
theorem zzadd_any {S : Int} {a b m : Nat} {w : World} (hS : Hid (S = 160 - (m : Int))) (m1 : 0 < m) (m2 : m ≤ 160) (ha : Big a) (hb : Big b) :
    Calls Try.prog 11 #[.agg #[.int .u64 S], .agg #[.int .u64 (wd0 a), .int .u64 (wd1 a), .int .u64 (wd2 a), .int .u64 (wd3 a)], .agg #[.int .u64 (wd0 b), .int .u64 (wd1 b), .int .u64 (wd2 b), .int .u64 (wd3 b)]] w fun e w' =>
      e = .returned (.agg #[.int .u64 (wd0 (lowN (addN a b) m)), .int .u64 (wd1 (lowN (addN a b) m)), .int .u64 (wd2 (lowN (addN a b) m)), .int .u64 (wd3 (lowN (addN a b) m))]) ∧ Below w.heap.size w w' := by
  go_enter Try.func11, Try.ntmps11
  go_wp2_with (go_at_call 19; refine (add_any hS m1 m2 ha hb).mono ?_; rintro e w2 ⟨rfl, hb2⟩; obtain ⟨hc, hf⟩ := bcell hb2; have hz := hb2.size; simp at hz)
  exact bodyPost_ret (v := .agg #[.int .u64 (wd0 (lowN (addN a b) m)), .int .u64 (wd1 (lowN (addN a b) m)), .int .u64 (wd2 (lowN (addN a b) m)), .int .u64 (wd3 (lowN (addN a b) m))]) (by simp [results, Try.results11, go_sem, hc]) rfl
    ⟨rfl, below_set4 (below_call (by repeat (first | exact Below.refl _ _ | refine Below.alloc ?_ (by simp <;> omega) _)) hb2) (by omega) _ _ _ _⟩

end Go.Proofs.Qxb6614289a
