/-
  Seat b6614289a: Arcs: both arcs, in whatever order Go takes them.
-/
import Derived.Test.Qxb6614289aW7
import Derived.Deep.RegionHeld3
namespace Go.Proofs.Qxb6614289a
open Go.RowKit

/-- What a cell holds. -/
def valAt (w : World) (b i : Nat) : Value := (w.cell? ⟨b, i, none⟩).getD undef

/-- The first three blocks are as they were laid; the next two are there and may be written. -/
structure Sx (w : World) (S : Int) (a b : Nat) (w' : World) : Prop where
  low : Below (w.heap.size + 3) (five w S a b) w'
  size : w.heap.size + 1 + 1 + 1 + 1 + 1 ≤ w'.heap.size
  c : ∀ k i, (k = w.heap.size + 1 + 1 + 1 ∨ k = w.heap.size + 1 + 1 + 1 + 1) → i < 4 → (w'.cell? ⟨k, i, none⟩).isSome = true
  f : ∀ k i, (k = w.heap.size + 1 + 1 + 1 ∨ k = w.heap.size + 1 + 1 + 1 + 1) → i < 4 → w'.frozen? ⟨k, i, none⟩ = false

theorem Sx.start (w : World) (S : Int) (a b : Nat) : Sx w S a b (five w S a b).drew := by
  have hr := five_r w S a b
  have hz := five_z w S a b
  refine ⟨(Below.refl _ _).drew, Nat.le_of_eq (five_size w S a b).symm, ?_, ?_⟩
  · rintro k i (rfl | rfl) hi
    · rw [hr.drew.cell i]
      match i, hi with
      | 0, _ => rfl
      | 1, _ => rfl
      | 2, _ => rfl
      | 3, _ => rfl
    · rw [hz.drew.cell i]
      match i, hi with
      | 0, _ => rfl
      | 1, _ => rfl
      | 2, _ => rfl
      | 3, _ => rfl
  · rintro k i (rfl | rfl) _
    · exact hr.drew.free i
    · exact hz.drew.free i

theorem Sx.call {w w1 w2 : World} {S : Int} {a b : Nat} (h : Sx w S a b w1) (hb : Below w1.heap.size w1 w2) : Sx w S a b w2 := by
  have hs := h.size
  refine ⟨h.low.trans (hb.mono (by omega)), Nat.le_trans h.size hb.size, fun k i hk hi => ?_, fun k i hk hi => ?_⟩
  · rw [hb.cell (p := ⟨k, i, none⟩) (show k < w1.heap.size by omega)]
    exact h.c k i hk hi
  · rw [hb.frozen (p := ⟨k, i, none⟩) (show k < w1.heap.size by omega)]
    exact h.f k i hk hi

theorem some_set {w : World} {p q : Addr} {v : Value} (h : (w.cell? q).isSome = true) : ((w.setCell p v).cell? q).isSome = true := by
  obtain ⟨u, hu⟩ := Option.isSome_iff_exists.1 h
  obtain ⟨u', hu'⟩ := cell?_setCell_some (w := w) (p := p) (x := v) (q := q) (v := u) hu
  rw [hu']; rfl

theorem Sx.set {w w1 : World} {S : Int} {a b : Nat} (h : Sx w S a b w1) {k i : Nat} (v : Value) (hk : w.heap.size + 3 ≤ k) : Sx w S a b (w1.setCell ⟨k, i, none⟩ v) :=
  ⟨h.low.setCell hk v, by simpa using h.size, fun k i hk hi => some_set (h.c k i hk hi), fun k i hk hi => by rw [World.frozen?_setCell]; exact h.f k i hk hi⟩

theorem Sx.set4 {w w1 : World} {S : Int} {a b : Nat} (h : Sx w S a b w1) {k : Nat} (hk : w.heap.size + 3 ≤ k) (v0 v1 v2 v3 : Value) :
    Sx w S a b ((((w1.setCell ⟨k, 0, none⟩ v0).setCell ⟨k, 1, none⟩ v1).setCell ⟨k, 2, none⟩ v2).setCell ⟨k, 3, none⟩ v3) := (((h.set v0 hk).set v1 hk).set v2 hk).set v3 hk

section
variable {w w' : World} {S : Int} {a b : Nat}
theorem Sx.s0 (h : Sx w S a b w') : w'.cell? ⟨w.heap.size, 0, none⟩ = some (.int .u64 S) := (h.low.cell (p := ⟨w.heap.size, 0, none⟩) (by show w.heap.size < w.heap.size + 3; omega)).trans ((five_s w S a b).cell 0)
theorem Sx.a4 (h : Sx w S a b w') : Blk w' (w.heap.size + 1) 31 (W4 (wd0 a) (wd1 a) (wd2 a) (wd3 a)) := (five_a w S a b).below h.low (by omega)
theorem Sx.b4 (h : Sx w S a b w') : Blk w' (w.heap.size + 1 + 1) 31 (W4 (wd0 b) (wd1 b) (wd2 b) (wd3 b)) := (five_b w S a b).below h.low (by omega)
theorem Sx.v (h : Sx w S a b w') (k i : Nat) (hk : k = w.heap.size + 1 + 1 + 1 ∨ k = w.heap.size + 1 + 1 + 1 + 1) (hi : i < 4) : w'.cell? ⟨k, i, none⟩ = some (valAt w' k i) := by
  obtain ⟨u, hu⟩ := Option.isSome_iff_exists.1 (h.c k i hk hi)
  unfold valAt
  rw [hu]; rfl
end

theorem Sx.toBelow {w w' : World} {S : Int} {a b : Nat} (h : Sx w S a b w') : Below w.heap.size w w' := (five_below w S a b).trans (h.low.mono (by omega))

end Go.Proofs.Qxb6614289a
