/-
  Seat b6614289a: (ID).low: the lowest m bits.
-/
import Derived.Test.Qxb6614289aM
namespace Go.Proofs.Qxb6614289a
open Go.RowKit

theorem Blk.grown {w w' : World} {b c : Nat} {t : TypeId} {vs : Array Value} (h : Blk w b t vs) (hg : w.grownBy w' (some c)) (hne : b ≠ c) : Blk w' b t vs :=
  (hg.block b h.lt (by simpa using hne)).trans h
theorem Blk.grown0 {w w' : World} {b : Nat} {t : TypeId} {vs : Array Value} (h : Blk w b t vs) (hg : w.grownBy w' none) : Blk w' b t vs :=
  (hg.block b h.lt (by simp)).trans h
theorem Blk.below {w w' : World} {b B : Nat} {t : TypeId} {vs : Array Value} (h : Blk w b t vs) (hb : Below B w w') (hlt : b < B) : Blk w' b t vs :=
  (hb.block b hlt).trans h

theorem Blk.c4 {w : World} {b : Nat} {t : TypeId} {x0 x1 x2 x3 : Int} (h : Blk w b t (W4 x0 x1 x2 x3)) :
    w.cell? ⟨b, 0, none⟩ = some (.int .u64 x0) ∧ w.cell? ⟨b, 1, none⟩ = some (.int .u64 x1) ∧ w.cell? ⟨b, 2, none⟩ = some (.int .u64 x2) ∧ w.cell? ⟨b, 3, none⟩ = some (.int .u64 x3) := ⟨h.cell 0, h.cell 1, h.cell 2, h.cell 3⟩
theorem Blk.f4 {w : World} {b : Nat} {t : TypeId} {vs : Array Value} (h : Blk w b t vs) :
    w.frozen? ⟨b, 0, none⟩ = false ∧ w.frozen? ⟨b, 1, none⟩ = false ∧ w.frozen? ⟨b, 2, none⟩ = false ∧ w.frozen? ⟨b, 3, none⟩ = false := ⟨h.free 0, h.free 1, h.free 2, h.free 3⟩
theorem below_set4 {B b : Nat} {w0 w : World} (h : Below B w0 w) (hb : B ≤ b) (v0 v1 v2 v3 : Value) : Below B w0 ((((w.setCell ⟨b, 0, none⟩ v0).setCell ⟨b, 1, none⟩ v1).setCell ⟨b, 2, none⟩ v2).setCell ⟨b, 3, none⟩ v3) :=
  (((h.setCell hb v0).setCell hb v1).setCell hb v2).setCell hb v3

theorem lowA_eq {v m : Nat} (m1 : 128 < m) (m2 : m ≤ 160) : W4 (orW (shrW (shlW (wd0 v) (256 - (m : Int) - 64).toNat) (256 - (m : Int) - 64).toNat) (shlW (orW (shlW (wd1 v) (256 - (m : Int) - 64).toNat) (shrW (wd0 v) (64 - (256 - (m : Int) - 64)).toNat)) (64 - (256 - (m : Int) - 64)).toNat))
      (orW (shrW (orW (shlW (wd1 v) (256 - (m : Int) - 64).toNat) (shrW (wd0 v) (64 - (256 - (m : Int) - 64)).toNat)) (256 - (m : Int) - 64).toNat) (shlW (orW (shlW (wd2 v) (256 - (m : Int) - 64).toNat) (shrW (wd1 v) (64 - (256 - (m : Int) - 64)).toNat)) (64 - (256 - (m : Int) - 64)).toNat))
      (shrW (orW (shlW (wd2 v) (256 - (m : Int) - 64).toNat) (shrW (wd1 v) (64 - (256 - (m : Int) - 64)).toNat)) (256 - (m : Int) - 64).toNat) 0 =
    W4 (wd0 (lowN v m)) (wd1 (lowN v m)) (wd2 (lowN v m)) (wd3 (lowN v m)) := by
  obtain ⟨k, hk⟩ : ∃ k : Nat, k = (256 - (m : Int) - 64).toNat := ⟨_, rfl⟩
  obtain ⟨j, hj⟩ : ∃ j : Nat, j = (64 - (256 - (m : Int) - 64)).toNat := ⟨_, rfl⟩
  rw [← hk, ← hj]
  have hkj : k + j = 64 := by omega
  have hm : m = 128 + j := by omega
  have h := low_A v (j := j) (by omega)
  rw [hm, ← h.1, ← h.2.1, ← h.2.2.1, ← h.2.2.2, shrshl hkj, shl_join hkj (word_wd0 v), shr_join hkj (word_wd0 v), shl_join hkj (word_wd1 v), shr_join hkj (word_wd1 v), back (by omega) (word_wd0 v), back (by omega) (word_wd1 v)]

theorem lowB_eq {v m : Nat} (m1 : 64 < m) (m2 : m ≤ 128) : W4 (orW (shrW (shlW (wd0 v) (256 - (m : Int) - 128).toNat) (256 - (m : Int) - 128).toNat) (shlW (orW (shlW (wd1 v) (256 - (m : Int) - 128).toNat) (shrW (wd0 v) (64 - (256 - (m : Int) - 128)).toNat)) (64 - (256 - (m : Int) - 128)).toNat))
      (shrW (orW (shlW (wd1 v) (256 - (m : Int) - 128).toNat) (shrW (wd0 v) (64 - (256 - (m : Int) - 128)).toNat)) (256 - (m : Int) - 128).toNat) 0 0 =
    W4 (wd0 (lowN v m)) (wd1 (lowN v m)) (wd2 (lowN v m)) (wd3 (lowN v m)) := by
  obtain ⟨k, hk⟩ : ∃ k : Nat, k = (256 - (m : Int) - 128).toNat := ⟨_, rfl⟩
  obtain ⟨j, hj⟩ : ∃ j : Nat, j = (64 - (256 - (m : Int) - 128)).toNat := ⟨_, rfl⟩
  rw [← hk, ← hj]
  have hkj : k + j = 64 := by omega
  have hm : m = 64 + j := by omega
  have h := low_B v (j := j) (by omega)
  rw [hm, ← h.1, ← h.2.1, ← h.2.2.1, ← h.2.2.2, shrshl hkj, shl_join hkj (word_wd0 v), shr_join hkj (word_wd0 v), back (by omega) (word_wd0 v)]

theorem lowC_eq {v m : Nat} (m1 : 0 < m) (m2 : m ≤ 64) : W4 (shrW (shlW (wd0 v) (256 - (m : Int) - 192).toNat) (256 - (m : Int) - 192).toNat) 0 0 0 =
    W4 (wd0 (lowN v m)) (wd1 (lowN v m)) (wd2 (lowN v m)) (wd3 (lowN v m)) := by
  obtain ⟨k, hk⟩ : ∃ k : Nat, k = (256 - (m : Int) - 192).toNat := ⟨_, rfl⟩
  rw [← hk]
  have hkj : k + m = 64 := by omega
  have h := low_C v (j := m) (by omega)
  rw [← h.1, ← h.2.1, ← h.2.2.1, ← h.2.2.2, shrshl hkj]


set_option maxRecDepth 100000 in
set_option maxHeartbeats 1000000 in
theorem low_A_any {v m : Nat} {w : World} (m1 : 128 < m) (m2 : m ≤ 160) :
    Calls Try.prog 26 #[.agg #[.int .u64 (wd0 v), .int .u64 (wd1 v), .int .u64 (wd2 v), .int .u64 (wd3 v)], .int .i64 (m : Int)] w fun e w' =>
      e = .returned (.agg #[.int .u64 (wd0 (lowN v m)), .int .u64 (wd1 (lowN v m)), .int .u64 (wd2 (lowN v m)), .int .u64 (wd3 (lowN v m))]) ∧ Below w.heap.size w w' := by
  have b0 : Blk ((w.alloc (.cells (W4 (wd0 v) (wd1 v) (wd2 v) (wd3 v)) 31)).alloc (.cells (W4 0 0 0 0) 31)) w.heap.size 31 (W4 (wd0 v) (wd1 v) (wd2 v) (wd3 v)) := (Blk.new w 31 _).alloc _
  have r0 : Blk ((w.alloc (.cells (W4 (wd0 v) (wd1 v) (wd2 v) (wd3 v)) 31)).alloc (.cells (W4 0 0 0 0) 31)) (w.heap.size + 1) 31 (W4 0 0 0 0) := by
    have h := Blk.new (w.alloc (.cells (W4 (wd0 v) (wd1 v) (wd2 v) (wd3 v)) 31)) 31 (W4 0 0 0 0)
    rwa [World.size_alloc] at h
  have hw0 : Below w.heap.size w ((w.alloc (.cells (W4 (wd0 v) (wd1 v) (wd2 v) (wd3 v)) 31)).alloc (.cells (W4 0 0 0 0) 31)) := ((Below.refl _ _).alloc (Nat.le_refl _) _).alloc (by simp) _
  go_enter Try.func26, Try.ntmps26
  go_wp2_with (first
    | (go_at_call 29; refine (lshA (by omega) (by omega) b0).mono ?_; rintro e w1 ⟨rfl, b1, g1⟩)
    | (go_at_call 30; refine (rshA (by omega) (by omega) b1).mono ?_; rintro e w2 ⟨rfl, b2, g2⟩; rw [lowA_eq m1 m2] at b2; have hw2 : Below w.heap.size w w2 := (hw0.grown g1 (by simp; omega) (fun j hj => by cases hj; exact Nat.le_refl _)).grown g2 (Nat.le_trans (by simp; omega) g1.size) (fun j hj => by cases hj; exact Nat.le_refl _); have r2 := (r0.grown g1 (by omega)).grown g2 (by omega); obtain ⟨c0, c1, c2, c3⟩ := b2.c4; obtain ⟨d0, d1, d2, d3⟩ := r2.c4; obtain ⟨f0, f1, f2, f3⟩ := r2.f4; clear b2 r2 b1 g1 g2 b0 r0 hw0))
  exact bodyPost_ret (v := .agg #[.int .u64 (wd0 (lowN v m)), .int .u64 (wd1 (lowN v m)), .int .u64 (wd2 (lowN v m)), .int .u64 (wd3 (lowN v m))]) (by simp [results, Try.results26, go_sem, d0, d1, d2, d3]) rfl ⟨rfl, below_set4 hw2 (Nat.le_succ _) _ _ _ _⟩

set_option maxRecDepth 100000 in
set_option maxHeartbeats 1000000 in
theorem low_B_any {v m : Nat} {w : World} (m1 : 64 < m) (m2 : m ≤ 128) :
    Calls Try.prog 26 #[.agg #[.int .u64 (wd0 v), .int .u64 (wd1 v), .int .u64 (wd2 v), .int .u64 (wd3 v)], .int .i64 (m : Int)] w fun e w' =>
      e = .returned (.agg #[.int .u64 (wd0 (lowN v m)), .int .u64 (wd1 (lowN v m)), .int .u64 (wd2 (lowN v m)), .int .u64 (wd3 (lowN v m))]) ∧ Below w.heap.size w w' := by
  have b0 : Blk ((w.alloc (.cells (W4 (wd0 v) (wd1 v) (wd2 v) (wd3 v)) 31)).alloc (.cells (W4 0 0 0 0) 31)) w.heap.size 31 (W4 (wd0 v) (wd1 v) (wd2 v) (wd3 v)) := (Blk.new w 31 _).alloc _
  have r0 : Blk ((w.alloc (.cells (W4 (wd0 v) (wd1 v) (wd2 v) (wd3 v)) 31)).alloc (.cells (W4 0 0 0 0) 31)) (w.heap.size + 1) 31 (W4 0 0 0 0) := by
    have h := Blk.new (w.alloc (.cells (W4 (wd0 v) (wd1 v) (wd2 v) (wd3 v)) 31)) 31 (W4 0 0 0 0)
    rwa [World.size_alloc] at h
  have hw0 : Below w.heap.size w ((w.alloc (.cells (W4 (wd0 v) (wd1 v) (wd2 v) (wd3 v)) 31)).alloc (.cells (W4 0 0 0 0) 31)) := ((Below.refl _ _).alloc (Nat.le_refl _) _).alloc (by simp) _
  go_enter Try.func26, Try.ntmps26
  go_wp2_with (first
    | (go_at_call 29; refine (lshB (by omega) (by omega) b0).mono ?_; rintro e w1 ⟨rfl, b1, g1⟩)
    | (go_at_call 30; refine (rshB (by omega) (by omega) b1).mono ?_; rintro e w2 ⟨rfl, b2, g2⟩; rw [lowB_eq m1 m2] at b2; have hw2 : Below w.heap.size w w2 := (hw0.grown g1 (by simp; omega) (fun j hj => by cases hj; exact Nat.le_refl _)).grown g2 (Nat.le_trans (by simp; omega) g1.size) (fun j hj => by cases hj; exact Nat.le_refl _); have r2 := (r0.grown g1 (by omega)).grown g2 (by omega); obtain ⟨c0, c1, c2, c3⟩ := b2.c4; obtain ⟨d0, d1, d2, d3⟩ := r2.c4; obtain ⟨f0, f1, f2, f3⟩ := r2.f4; clear b2 r2 b1 g1 g2 b0 r0 hw0))
  exact bodyPost_ret (v := .agg #[.int .u64 (wd0 (lowN v m)), .int .u64 (wd1 (lowN v m)), .int .u64 (wd2 (lowN v m)), .int .u64 (wd3 (lowN v m))]) (by simp [results, Try.results26, go_sem, d0, d1, d2, d3]) rfl ⟨rfl, below_set4 hw2 (Nat.le_succ _) _ _ _ _⟩

set_option maxRecDepth 100000 in
set_option maxHeartbeats 1000000 in
theorem low_C_any {v m : Nat} {w : World} (m1 : 0 < m) (m2 : m ≤ 64) :
    Calls Try.prog 26 #[.agg #[.int .u64 (wd0 v), .int .u64 (wd1 v), .int .u64 (wd2 v), .int .u64 (wd3 v)], .int .i64 (m : Int)] w fun e w' =>
      e = .returned (.agg #[.int .u64 (wd0 (lowN v m)), .int .u64 (wd1 (lowN v m)), .int .u64 (wd2 (lowN v m)), .int .u64 (wd3 (lowN v m))]) ∧ Below w.heap.size w w' := by
  have b0 : Blk ((w.alloc (.cells (W4 (wd0 v) (wd1 v) (wd2 v) (wd3 v)) 31)).alloc (.cells (W4 0 0 0 0) 31)) w.heap.size 31 (W4 (wd0 v) (wd1 v) (wd2 v) (wd3 v)) := (Blk.new w 31 _).alloc _
  have r0 : Blk ((w.alloc (.cells (W4 (wd0 v) (wd1 v) (wd2 v) (wd3 v)) 31)).alloc (.cells (W4 0 0 0 0) 31)) (w.heap.size + 1) 31 (W4 0 0 0 0) := by
    have h := Blk.new (w.alloc (.cells (W4 (wd0 v) (wd1 v) (wd2 v) (wd3 v)) 31)) 31 (W4 0 0 0 0)
    rwa [World.size_alloc] at h
  have hw0 : Below w.heap.size w ((w.alloc (.cells (W4 (wd0 v) (wd1 v) (wd2 v) (wd3 v)) 31)).alloc (.cells (W4 0 0 0 0) 31)) := ((Below.refl _ _).alloc (Nat.le_refl _) _).alloc (by simp) _
  go_enter Try.func26, Try.ntmps26
  go_wp2_with (first
    | (go_at_call 29; refine (lshC (by omega) (by omega) b0).mono ?_; rintro e w1 ⟨rfl, b1, g1⟩)
    | (go_at_call 30; refine (rshC (by omega) (by omega) b1).mono ?_; rintro e w2 ⟨rfl, b2, g2⟩; rw [lowC_eq m1 m2] at b2; have hw2 : Below w.heap.size w w2 := (hw0.grown g1 (by simp; omega) (fun j hj => by cases hj; exact Nat.le_refl _)).grown g2 (Nat.le_trans (by simp; omega) g1.size) (fun j hj => by cases hj; exact Nat.le_refl _); have r2 := (r0.grown g1 (by omega)).grown g2 (by omega); obtain ⟨c0, c1, c2, c3⟩ := b2.c4; obtain ⟨d0, d1, d2, d3⟩ := r2.c4; obtain ⟨f0, f1, f2, f3⟩ := r2.f4; clear b2 r2 b1 g1 g2 b0 r0 hw0))
  exact bodyPost_ret (v := .agg #[.int .u64 (wd0 (lowN v m)), .int .u64 (wd1 (lowN v m)), .int .u64 (wd2 (lowN v m)), .int .u64 (wd3 (lowN v m))]) (by simp [results, Try.results26, go_sem, d0, d1, d2, d3]) rfl ⟨rfl, below_set4 hw2 (Nat.le_succ _) _ _ _ _⟩

theorem low_any {v m : Nat} {w : World} (m1 : 0 < m) (m2 : m ≤ 160) :
    Calls Try.prog 26 #[.agg #[.int .u64 (wd0 v), .int .u64 (wd1 v), .int .u64 (wd2 v), .int .u64 (wd3 v)], .int .i64 (m : Int)] w fun e w' =>
      e = .returned (.agg #[.int .u64 (wd0 (lowN v m)), .int .u64 (wd1 (lowN v m)), .int .u64 (wd2 (lowN v m)), .int .u64 (wd3 (lowN v m))]) ∧ Below w.heap.size w w' := by
  by_cases h1 : 128 < m
  · exact low_A_any h1 m2
  · by_cases h2 : 64 < m
    · exact low_B_any h2 (by omega)
    · exact low_C_any m1 (by omega)

end Go.Proofs.Qxb6614289a
