/-
  Seat b6614289a: zzSub4: the difference, word by word with borrows.
-/
import Derived.Test.Qxb6614289aV1
namespace Go.Proofs.Qxb6614289a
open Go.RowKit

/-- The k-th word. -/
def wdi (v : Nat) : Nat → Int
  | 0 => wd0 v
  | 1 => wd1 v
  | 2 => wd2 v
  | _ => wd3 v
theorem word_wdi (v k : Nat) : Word (wdi v k) := by
  match k with
  | 0 => exact word_wd0 v
  | 1 => exact word_wd1 v
  | 2 => exact word_wd2 v
  | _ + 3 => exact word_wd3 v
/-- The borrow ahead of word k. -/
def bo (a b : Nat) : Nat → Int
  | 0 => 0
  | k + 1 => bW (wdi a k) (wdi b k) (bo a b k)
theorem bit_bo (a b k : Nat) : Bit (bo a b k) := by
  match k with
  | 0 => exact bit_0
  | _ + 1 => exact bit_bW _ _ _
theorem sub_wdi {a b k : Nat} (ha : Big a) (hb : Big b) (hk : k < 4) : sW (wdi a k) (wdi b k) (bo a b k) = wdi (subN a b) k := by
  have h := sub_words ha hb
  match k, hk with
  | 0, _ => exact h.1
  | 1, _ => exact h.2.1
  | 2, _ => exact h.2.2.1
  | 3, _ => exact h.2.2.2

/-- The words of the difference that are there already. -/
def part (a b k j : Nat) : Int := if j < k then wdi (subN a b) j else 0

structure Z4 (w : World) (a b k : Nat) (wr : World) : Prop where
  ca : ∀ j, j < 4 → wr.cell? ⟨w.heap.size, j, none⟩ = some (.int .u64 (wdi a j))
  cb : ∀ j, j < 4 → wr.cell? ⟨w.heap.size + 1, j, none⟩ = some (.int .u64 (wdi b j))
  cr : ∀ j, j < 4 → wr.cell? ⟨w.heap.size + 1 + 1, j, none⟩ = some (.int .u64 0)
  cz : ∀ j, j < 4 → wr.cell? ⟨w.heap.size + 1 + 1 + 1, j, none⟩ = some (.int .u64 (part a b k j))
  fr : ∀ j, j < 4 → wr.frozen? ⟨w.heap.size + 1 + 1, j, none⟩ = false
  fz : ∀ j, j < 4 → wr.frozen? ⟨w.heap.size + 1 + 1 + 1, j, none⟩ = false
  low : Below w.heap.size w wr

theorem blk_wdi {w : World} {b : Nat} {t : TypeId} {v : Nat} (h : Blk w b t (W4 (wd0 v) (wd1 v) (wd2 v) (wd3 v))) : ∀ j, j < 4 → w.cell? ⟨b, j, none⟩ = some (.int .u64 (wdi v j)) := by
  intro j hj
  match j, hj with
  | 0, _ => exact h.cell 0
  | 1, _ => exact h.cell 1
  | 2, _ => exact h.cell 2
  | 3, _ => exact h.cell 3
theorem blk_zero {w : World} {b : Nat} {t : TypeId} (h : Blk w b t (W4 0 0 0 0)) : ∀ j, j < 4 → w.cell? ⟨b, j, none⟩ = some (.int .u64 0) := by
  intro j hj
  match j, hj with
  | 0, _ => exact h.cell 0
  | 1, _ => exact h.cell 1
  | 2, _ => exact h.cell 2
  | 3, _ => exact h.cell 3

theorem Z4.start (w : World) (a b : Nat) : Z4 w a b 0 (((ab w a b).alloc (.cells (W4 0 0 0 0) 24)).alloc (.cells (W4 0 0 0 0) 24)) := by
  have h2 : Blk (((ab w a b).alloc (.cells (W4 0 0 0 0) 24)).alloc (.cells (W4 0 0 0 0) 24)) (w.heap.size + 1 + 1) 24 (W4 0 0 0 0) := by
    have h := (Blk.new (ab w a b) 24 (W4 0 0 0 0)).alloc (.cells (W4 0 0 0 0) 24)
    rwa [show (ab w a b).heap.size = w.heap.size + 1 + 1 by unfold ab; simp] at h
  have h3 : Blk (((ab w a b).alloc (.cells (W4 0 0 0 0) 24)).alloc (.cells (W4 0 0 0 0) 24)) (w.heap.size + 1 + 1 + 1) 24 (W4 0 0 0 0) := by
    have h := Blk.new2 (ab w a b) (.cells (W4 0 0 0 0) 24) 24 (W4 0 0 0 0)
    rwa [show (ab w a b).heap.size = w.heap.size + 1 + 1 by unfold ab; simp] at h
  refine ⟨blk_wdi (((ab_a w a b).alloc _).alloc _), blk_wdi (((ab_b w a b).alloc _).alloc _), blk_zero h2, ?_, fun j _ => h2.free j, fun j _ => h3.free j, ?_⟩
  · intro j hj
    rw [blk_zero h3 j hj]
    simp [part]
  · exact ((ab_below w a b).alloc (by unfold ab; simp; omega) _).alloc (by unfold ab; simp; omega) _

theorem Z4.step {w wr : World} {a b k : Nat} (h : Z4 w a b k wr) (hk : k < 4) : Z4 w a b (k + 1) (wr.setCell ⟨w.heap.size + 1 + 1 + 1, k, none⟩ (.int .u64 (wdi (subN a b) k))) := by
  have oth : ∀ (q j : Nat), q ≠ w.heap.size + 1 + 1 + 1 → (wr.setCell ⟨w.heap.size + 1 + 1 + 1, k, none⟩ (.int .u64 (wdi (subN a b) k))).cell? ⟨q, j, none⟩ = wr.cell? ⟨q, j, none⟩ := fun q j hq =>
    World.cell?_of_block (a := ⟨q, j, none⟩) (Below.heap_setCell wr _ _ q hq)
  refine ⟨fun j hj => (oth _ j (by omega)).trans (h.ca j hj), fun j hj => (oth _ j (by omega)).trans (h.cb j hj), fun j hj => (oth _ j (by omega)).trans (h.cr j hj), ?_, ?_, ?_, h.low.setCell (by show w.heap.size ≤ w.heap.size + 1 + 1 + 1; omega) _⟩
  · intro j hj
    by_cases e : j = k
    · subst e
      rw [World.cell?_setCell_same _ _ _ (h.cz j hj)]
      simp [part]
    · rw [World.cell?_setCell_other _ _ _ _ (fun h => e (by injection h with _ h2 _; exact h2.symm)), h.cz j hj]
      have : (j < k + 1) = (j < k) := by rw [eq_iff_iff]; omega
      simp [part, this]
  · intro j hj; rw [World.frozen?_setCell]; exact h.fr j hj
  · intro j hj; rw [World.frozen?_setCell]; exact h.fz j hj

theorem Z4.drew {w wr : World} {a b k : Nat} (h : Z4 w a b k wr) : Z4 w a b k wr.drew := ⟨h.ca, h.cb, h.cr, h.cz, h.fr, h.fz, h.low.drew⟩

end Go.Proofs.Qxb6614289a
