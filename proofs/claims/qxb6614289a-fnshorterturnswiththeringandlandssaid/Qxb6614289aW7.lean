/-
  Seat b6614289a: sub and add on the ring of 2^m positions.
-/
import Derived.Test.Qxb6614289aW6
namespace Go.Proofs.Qxb6614289a
open Go.RowKit

/-- Five blocks: the space, two numbers, the result's variable, the local. -/
def five (w : World) (S : Int) (a b : Nat) : World :=
  ((((w.alloc (.cells #[.int .u64 S] 27)).alloc (.cells (W4 (wd0 a) (wd1 a) (wd2 a) (wd3 a)) 31)).alloc (.cells (W4 (wd0 b) (wd1 b) (wd2 b) (wd3 b)) 31)).alloc (.cells (W4 0 0 0 0) 31)).alloc (.cells (W4 0 0 0 0) 31)

theorem five_below (w : World) (S : Int) (a b : Nat) : Below w.heap.size w (five w S a b) := by
  unfold five
  repeat (first | exact Below.refl _ _ | refine Below.alloc ?_ (by simp <;> omega) _)

theorem five_size (w : World) (S : Int) (a b : Nat) : (five w S a b).heap.size = w.heap.size + 1 + 1 + 1 + 1 + 1 := by unfold five; simp

theorem five_s (w : World) (S : Int) (a b : Nat) : Blk (five w S a b) w.heap.size 27 #[.int .u64 S] := ((((Blk.new w 27 _).alloc _).alloc _).alloc _).alloc _
theorem five_a (w : World) (S : Int) (a b : Nat) : Blk (five w S a b) (w.heap.size + 1) 31 (W4 (wd0 a) (wd1 a) (wd2 a) (wd3 a)) := by
  have h := ((Blk.new (w.alloc (.cells #[.int .u64 S] 27)) 31 (W4 (wd0 a) (wd1 a) (wd2 a) (wd3 a))).alloc (.cells (W4 (wd0 b) (wd1 b) (wd2 b) (wd3 b)) 31)).alloc (.cells (W4 0 0 0 0) 31) |>.alloc (.cells (W4 0 0 0 0) 31)
  rwa [World.size_alloc] at h
theorem five_b (w : World) (S : Int) (a b : Nat) : Blk (five w S a b) (w.heap.size + 1 + 1) 31 (W4 (wd0 b) (wd1 b) (wd2 b) (wd3 b)) := by
  have h := (Blk.new ((w.alloc (.cells #[.int .u64 S] 27)).alloc (.cells (W4 (wd0 a) (wd1 a) (wd2 a) (wd3 a)) 31)) 31 (W4 (wd0 b) (wd1 b) (wd2 b) (wd3 b))).alloc (.cells (W4 0 0 0 0) 31) |>.alloc (.cells (W4 0 0 0 0) 31)
  rwa [World.size_alloc, World.size_alloc] at h
theorem five_r (w : World) (S : Int) (a b : Nat) : Blk (five w S a b) (w.heap.size + 1 + 1 + 1) 31 (W4 0 0 0 0) := by
  have h := (Blk.new (((w.alloc (.cells #[.int .u64 S] 27)).alloc (.cells (W4 (wd0 a) (wd1 a) (wd2 a) (wd3 a)) 31)).alloc (.cells (W4 (wd0 b) (wd1 b) (wd2 b) (wd3 b)) 31)) 31 (W4 0 0 0 0)).alloc (.cells (W4 0 0 0 0) 31)
  rwa [World.size_alloc, World.size_alloc, World.size_alloc] at h
theorem five_z (w : World) (S : Int) (a b : Nat) : Blk (five w S a b) (w.heap.size + 1 + 1 + 1 + 1) 31 (W4 0 0 0 0) := by
  have h := Blk.new ((((w.alloc (.cells #[.int .u64 S] 27)).alloc (.cells (W4 (wd0 a) (wd1 a) (wd2 a) (wd3 a)) 31)).alloc (.cells (W4 (wd0 b) (wd1 b) (wd2 b) (wd3 b)) 31)).alloc (.cells (W4 0 0 0 0) 31)) 31 (W4 0 0 0 0)
  rwa [World.size_alloc, World.size_alloc, World.size_alloc, World.size_alloc] at h


theorem isub_anyN (w : World) (S : Int) {a b : Nat} (ha : Big a) (hb : Big b) : Calls Try.prog 21 #[.pointer (some ⟨w.heap.size + 1 + 1 + 1 + 1, 0, none⟩), .pointer (some ⟨w.heap.size + 1, 0, none⟩), .pointer (some ⟨w.heap.size + 1 + 1, 0, none⟩)] (five w S a b) fun e w' =>
    e = .returned (.pointer (some ⟨w.heap.size + 1 + 1 + 1 + 1, 0, none⟩)) ∧ Blk w' (w.heap.size + 1 + 1 + 1 + 1) 31 (W4 (wd0 (subN a b)) (wd1 (subN a b)) (wd2 (subN a b)) (wd3 (subN a b))) ∧ (five w S a b).grownBy w' (some (w.heap.size + 1 + 1 + 1 + 1)) := by
  have T := @isub_any (w.heap.size + 1 + 1 + 1 + 1) (w.heap.size + 1) (w.heap.size + 1 + 1) (wd0 a) (wd1 a) (wd2 a) (wd3 a) (wd0 b) (wd1 b) (wd2 b) (wd3 b) (five w S a b) (by omega) (by omega) (five_z w S a b) (five_a w S a b) (five_b w S a b)
    (word_wd0 a) (word_wd1 a) (word_wd2 a) (word_wd3 a) (word_wd0 b) (word_wd1 b) (word_wd2 b) (word_wd3 b)
  have q := sub_words ha hb
  rw [q.1, q.2.1, q.2.2.1, q.2.2.2] at T
  exact T

set_option maxRecDepth 100000 in
set_option maxHeartbeats 1000000 in
theorem sub_any {S : Int} {a b m : Nat} {w : World} (hS : Hid (S = 160 - (m : Int))) (m1 : 0 < m) (m2 : m ≤ 160) (ha : Big a) (hb : Big b) :
    Calls Try.prog 18 #[.agg #[.int .u64 S], .agg #[.int .u64 (wd0 a), .int .u64 (wd1 a), .int .u64 (wd2 a), .int .u64 (wd3 a)], .agg #[.int .u64 (wd0 b), .int .u64 (wd1 b), .int .u64 (wd2 b), .int .u64 (wd3 b)]] w fun e w' =>
      e = .returned (.agg #[.int .u64 (wd0 (lowN (subN a b) m)), .int .u64 (wd1 (lowN (subN a b) m)), .int .u64 (wd2 (lowN (subN a b) m)), .int .u64 (wd3 (lowN (subN a b) m))]) ∧ Below w.heap.size w w' := by
  go_enter Try.func18, Try.ntmps18
  go_wp2_with (first
    | (go_at_call 21; go_must (refine (isub_anyN w S ha hb).mono ?_; rintro e w1 ⟨rfl, z1, g1⟩; have s1 := (five_s w S a b).grown g1 (by omega); have r1 := (five_r w S a b).grown g1 (by omega); have hw1 : Below w.heap.size w w1 := (five_below w S a b).grown g1 (by have hq := five_size w S a b; omega) (fun j hj => by cases hj; omega); have hz1 : w.heap.size + 1 + 1 + 1 + 1 + 1 ≤ w1.heap.size := five_size w S a b ▸ g1.size; have u0 := s1.cell 0; obtain ⟨c0, c1, c2, c3⟩ := z1.c4; obtain ⟨d0, d1, d2, d3⟩ := r1.c4; obtain ⟨f0, f1, f2, f3⟩ := r1.f4; simp at u0; clear s1 r1 g1 z1))
    | (go_at_call 22; refine (wrap_any hS m1 m2).mono ?_; rintro e w2 ⟨rfl, hb2⟩; obtain ⟨hc, hf⟩ := bcell hb2; have k0 := (hc (w.heap.size + 1 + 1 + 1) 0 (by omega)).trans d0; have k1 := (hc (w.heap.size + 1 + 1 + 1) 1 (by omega)).trans d1; have k2 := (hc (w.heap.size + 1 + 1 + 1) 2 (by omega)).trans d2; have k3 := (hc (w.heap.size + 1 + 1 + 1) 3 (by omega)).trans d3; have l0 := (hf (w.heap.size + 1 + 1 + 1) 0 (by omega)).trans f0; have l1 := (hf (w.heap.size + 1 + 1 + 1) 1 (by omega)).trans f1; have l2 := (hf (w.heap.size + 1 + 1 + 1) 2 (by omega)).trans f2; have l3 := (hf (w.heap.size + 1 + 1 + 1) 3 (by omega)).trans f3; clear hc hf))
  exact bodyPost_ret (v := .agg #[.int .u64 (wd0 (lowN (subN a b) m)), .int .u64 (wd1 (lowN (subN a b) m)), .int .u64 (wd2 (lowN (subN a b) m)), .int .u64 (wd3 (lowN (subN a b) m))]) (by simp [results, Try.results18, go_sem, k0, k1, k2, k3]) rfl
    ⟨rfl, below_set4 (below_call hw1 hb2) (by omega) _ _ _ _⟩

theorem iadd_anyN (w : World) (S : Int) {a b : Nat} (ha : Big a) (hb : Big b) : Calls Try.prog 23 #[.pointer (some ⟨w.heap.size + 1 + 1 + 1 + 1, 0, none⟩), .pointer (some ⟨w.heap.size + 1, 0, none⟩), .pointer (some ⟨w.heap.size + 1 + 1, 0, none⟩)] (five w S a b) fun e w' =>
    e = .returned (.pointer (some ⟨w.heap.size + 1 + 1 + 1 + 1, 0, none⟩)) ∧ Blk w' (w.heap.size + 1 + 1 + 1 + 1) 31 (W4 (wd0 (addN a b)) (wd1 (addN a b)) (wd2 (addN a b)) (wd3 (addN a b))) ∧ (five w S a b).grownBy w' (some (w.heap.size + 1 + 1 + 1 + 1)) := by
  have T := @iadd_any (w.heap.size + 1 + 1 + 1 + 1) (w.heap.size + 1) (w.heap.size + 1 + 1) (wd0 a) (wd1 a) (wd2 a) (wd3 a) (wd0 b) (wd1 b) (wd2 b) (wd3 b) (five w S a b) (by omega) (by omega) (five_z w S a b) (five_a w S a b) (five_b w S a b)
    (word_wd0 a) (word_wd1 a) (word_wd2 a) (word_wd3 a) (word_wd0 b) (word_wd1 b) (word_wd2 b) (word_wd3 b)
  have q := add_words ha hb
  rw [q.1, q.2.1, q.2.2.1, q.2.2.2] at T
  exact T

set_option maxRecDepth 100000 in
set_option maxHeartbeats 1000000 in
theorem add_any {S : Int} {a b m : Nat} {w : World} (hS : Hid (S = 160 - (m : Int))) (m1 : 0 < m) (m2 : m ≤ 160) (ha : Big a) (hb : Big b) :
    Calls Try.prog 19 #[.agg #[.int .u64 S], .agg #[.int .u64 (wd0 a), .int .u64 (wd1 a), .int .u64 (wd2 a), .int .u64 (wd3 a)], .agg #[.int .u64 (wd0 b), .int .u64 (wd1 b), .int .u64 (wd2 b), .int .u64 (wd3 b)]] w fun e w' =>
      e = .returned (.agg #[.int .u64 (wd0 (lowN (addN a b) m)), .int .u64 (wd1 (lowN (addN a b) m)), .int .u64 (wd2 (lowN (addN a b) m)), .int .u64 (wd3 (lowN (addN a b) m))]) ∧ Below w.heap.size w w' := by
  go_enter Try.func19, Try.ntmps19
  go_wp2_with (first
    | (go_at_call 23; go_must (refine (iadd_anyN w S ha hb).mono ?_; rintro e w1 ⟨rfl, z1, g1⟩; have s1 := (five_s w S a b).grown g1 (by omega); have r1 := (five_r w S a b).grown g1 (by omega); have hw1 : Below w.heap.size w w1 := (five_below w S a b).grown g1 (by have hq := five_size w S a b; omega) (fun j hj => by cases hj; omega); have hz1 : w.heap.size + 1 + 1 + 1 + 1 + 1 ≤ w1.heap.size := five_size w S a b ▸ g1.size; have u0 := s1.cell 0; obtain ⟨c0, c1, c2, c3⟩ := z1.c4; obtain ⟨d0, d1, d2, d3⟩ := r1.c4; obtain ⟨f0, f1, f2, f3⟩ := r1.f4; simp at u0; clear s1 r1 g1 z1))
    | (go_at_call 22; refine (wrap_any hS m1 m2).mono ?_; rintro e w2 ⟨rfl, hb2⟩; obtain ⟨hc, hf⟩ := bcell hb2; have k0 := (hc (w.heap.size + 1 + 1 + 1) 0 (by omega)).trans d0; have k1 := (hc (w.heap.size + 1 + 1 + 1) 1 (by omega)).trans d1; have k2 := (hc (w.heap.size + 1 + 1 + 1) 2 (by omega)).trans d2; have k3 := (hc (w.heap.size + 1 + 1 + 1) 3 (by omega)).trans d3; have l0 := (hf (w.heap.size + 1 + 1 + 1) 0 (by omega)).trans f0; have l1 := (hf (w.heap.size + 1 + 1 + 1) 1 (by omega)).trans f1; have l2 := (hf (w.heap.size + 1 + 1 + 1) 2 (by omega)).trans f2; have l3 := (hf (w.heap.size + 1 + 1 + 1) 3 (by omega)).trans f3; clear hc hf))
  exact bodyPost_ret (v := .agg #[.int .u64 (wd0 (lowN (addN a b) m)), .int .u64 (wd1 (lowN (addN a b) m)), .int .u64 (wd2 (lowN (addN a b) m)), .int .u64 (wd3 (lowN (addN a b) m))]) (by simp [results, Try.results19, go_sem, k0, k1, k2, k3]) rfl
    ⟨rfl, below_set4 (below_call hw1 hb2) (by omega) _ _ _ _⟩

end Go.Proofs.Qxb6614289a
