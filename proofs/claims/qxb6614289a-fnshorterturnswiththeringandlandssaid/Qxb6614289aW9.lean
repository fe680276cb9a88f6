/-
  Seat b6614289a: Arcs: both arcs, in whatever order Go takes them: the walk.
-/
import Derived.Test.Qxb6614289aW8
namespace Go.Proofs.Qxb6614289a
open Go.RowKit

set_option maxRecDepth 100000 in
set_option maxHeartbeats 1000000 in
theorem arcs_any {S : Int} {a b m : Nat} {w : World} (hS : Hid (S = 160 - (m : Int))) (m1 : 0 < m) (m2 : m ≤ 160) (ha : Big a) (hb : Big b) :
    Calls Try.prog 9 #[.agg #[.int .u64 S], .agg #[.int .u64 (wd0 a), .int .u64 (wd1 a), .int .u64 (wd2 a), .int .u64 (wd3 a)], .agg #[.int .u64 (wd0 b), .int .u64 (wd1 b), .int .u64 (wd2 b), .int .u64 (wd3 b)]] w fun e w' =>
      e = .returned (.tuple #[.agg #[.int .u64 (wd0 (lowN (subN b a) m)), .int .u64 (wd1 (lowN (subN b a) m)), .int .u64 (wd2 (lowN (subN b a) m)), .int .u64 (wd3 (lowN (subN b a) m))],
        .agg #[.int .u64 (wd0 (lowN (subN a b) m)), .int .u64 (wd1 (lowN (subN a b) m)), .int .u64 (wd2 (lowN (subN a b) m)), .int .u64 (wd3 (lowN (subN a b) m))]]) ∧ Below w.heap.size w w' := by
  have p0 : ∀ w', Sx w S a b w' → w'.cell? ⟨w.heap.size, 0, none⟩ = some (.int .u64 S) := fun w' h => h.s0
  have a0 : ∀ w', Sx w S a b w' → w'.cell? ⟨w.heap.size + 1, 0, none⟩ = some (.int .u64 (wd0 a)) := fun w' h => h.a4.cell 0
  have a1 : ∀ w', Sx w S a b w' → w'.cell? ⟨w.heap.size + 1, 1, none⟩ = some (.int .u64 (wd1 a)) := fun w' h => h.a4.cell 1
  have a2 : ∀ w', Sx w S a b w' → w'.cell? ⟨w.heap.size + 1, 2, none⟩ = some (.int .u64 (wd2 a)) := fun w' h => h.a4.cell 2
  have a3 : ∀ w', Sx w S a b w' → w'.cell? ⟨w.heap.size + 1, 3, none⟩ = some (.int .u64 (wd3 a)) := fun w' h => h.a4.cell 3
  have b0 : ∀ w', Sx w S a b w' → w'.cell? ⟨w.heap.size + 1 + 1, 0, none⟩ = some (.int .u64 (wd0 b)) := fun w' h => h.b4.cell 0
  have b1 : ∀ w', Sx w S a b w' → w'.cell? ⟨w.heap.size + 1 + 1, 1, none⟩ = some (.int .u64 (wd1 b)) := fun w' h => h.b4.cell 1
  have b2 : ∀ w', Sx w S a b w' → w'.cell? ⟨w.heap.size + 1 + 1, 2, none⟩ = some (.int .u64 (wd2 b)) := fun w' h => h.b4.cell 2
  have b3 : ∀ w', Sx w S a b w' → w'.cell? ⟨w.heap.size + 1 + 1, 3, none⟩ = some (.int .u64 (wd3 b)) := fun w' h => h.b4.cell 3
  have r0 : ∀ w', Sx w S a b w' → w'.cell? ⟨w.heap.size + 1 + 1 + 1, 0, none⟩ = some (valAt w' (w.heap.size + 1 + 1 + 1) 0) := fun w' h => h.v _ 0 (.inl rfl) (by decide)
  have r1 : ∀ w', Sx w S a b w' → w'.cell? ⟨w.heap.size + 1 + 1 + 1, 1, none⟩ = some (valAt w' (w.heap.size + 1 + 1 + 1) 1) := fun w' h => h.v _ 1 (.inl rfl) (by decide)
  have r2 : ∀ w', Sx w S a b w' → w'.cell? ⟨w.heap.size + 1 + 1 + 1, 2, none⟩ = some (valAt w' (w.heap.size + 1 + 1 + 1) 2) := fun w' h => h.v _ 2 (.inl rfl) (by decide)
  have r3 : ∀ w', Sx w S a b w' → w'.cell? ⟨w.heap.size + 1 + 1 + 1, 3, none⟩ = some (valAt w' (w.heap.size + 1 + 1 + 1) 3) := fun w' h => h.v _ 3 (.inl rfl) (by decide)
  have z0 : ∀ w', Sx w S a b w' → w'.cell? ⟨w.heap.size + 1 + 1 + 1 + 1, 0, none⟩ = some (valAt w' (w.heap.size + 1 + 1 + 1 + 1) 0) := fun w' h => h.v _ 0 (.inr rfl) (by decide)
  have z1 : ∀ w', Sx w S a b w' → w'.cell? ⟨w.heap.size + 1 + 1 + 1 + 1, 1, none⟩ = some (valAt w' (w.heap.size + 1 + 1 + 1 + 1) 1) := fun w' h => h.v _ 1 (.inr rfl) (by decide)
  have z2 : ∀ w', Sx w S a b w' → w'.cell? ⟨w.heap.size + 1 + 1 + 1 + 1, 2, none⟩ = some (valAt w' (w.heap.size + 1 + 1 + 1 + 1) 2) := fun w' h => h.v _ 2 (.inr rfl) (by decide)
  have z3 : ∀ w', Sx w S a b w' → w'.cell? ⟨w.heap.size + 1 + 1 + 1 + 1, 3, none⟩ = some (valAt w' (w.heap.size + 1 + 1 + 1 + 1) 3) := fun w' h => h.v _ 3 (.inr rfl) (by decide)
  have fr : ∀ w' i, Sx w S a b w' → i < 4 → w'.frozen? ⟨w.heap.size + 1 + 1 + 1, i, none⟩ = false := fun w' i h hi => h.f _ i (.inl rfl) hi
  have fz : ∀ w' i, Sx w S a b w' → i < 4 → w'.frozen? ⟨w.heap.size + 1 + 1 + 1 + 1, i, none⟩ = false := fun w' i h hi => h.f _ i (.inr rfl) hi
  have k3 : w.heap.size + 3 ≤ w.heap.size + 1 + 1 + 1 := Nat.le_refl _
  have k4 : w.heap.size + 3 ≤ w.heap.size + 1 + 1 + 1 + 1 := Nat.le_succ _
  go_enter Try.func9, Try.ntmps9
  go_wp2
  go_region_held3 (Sx w S a b) (first
      | (refine Sx.set4 (k := w.heap.size + 1 + 1 + 1 + 1) ?_ k4 _ _ _ _; assumption)
      | (refine Sx.set4 (k := w.heap.size + 1 + 1 + 1) ?_ k3 _ _ _ _; assumption)
      | exact g2
      | (exact Sx.start w S a b))
    (first | (go_at_call 18; refine (sub_any hS m1 m2 (by assumption) (by assumption)).mono ?_; rintro e w2 ⟨rfl, hb2⟩; have g2 : Sx w S a b w2 := (by refine Sx.call ?_ hb2; assumption)))
  go_wp2
  refine bodyPost_ret (v := .tuple #[.agg #[.int .u64 (wd0 (lowN (subN b a) m)), .int .u64 (wd1 (lowN (subN b a) m)), .int .u64 (wd2 (lowN (subN b a) m)), .int .u64 (wd3 (lowN (subN b a) m))],
        .agg #[.int .u64 (wd0 (lowN (subN a b) m)), .int .u64 (wd1 (lowN (subN a b) m)), .int .u64 (wd2 (lowN (subN a b) m)), .int .u64 (wd3 (lowN (subN a b) m))]]) ?_ rfl ⟨rfl, Sx.toBelow (by assumption)⟩
  simp [results, Try.results9, go_sem, r0 _ g2, r1 _ g2, r2 _ g2, r3 _ g2, z0 _ g2, z1 _ g2, z2 _ g2, z3 _ g2]
end Go.Proofs.Qxb6614289a
