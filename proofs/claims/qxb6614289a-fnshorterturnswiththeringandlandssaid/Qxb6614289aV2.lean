/-
  Seat b6614289a: the first law's walk where all is on the ring.
-/
import Derived.Test.Qxb6614289aV1
namespace Go.Proofs.Qxb6614289a
open Go.RowKit

/-- ZZadd of a and the arc that leads from a to b. -/
theorem zzadd_back {S : Int} {a b m : Nat} {w : World} (hS : Hid (S = 160 - (m : Int))) (m1 : 0 < m) (m2 : m ≤ 160) (ha : Big a) (_hb : Big b) :
    Calls Try.prog 11 #[.agg #[.int .u64 S], .agg #[.int .u64 (wd0 a), .int .u64 (wd1 a), .int .u64 (wd2 a), .int .u64 (wd3 a)], .agg #[.int .u64 (wd0 (lowN (subN b a) m)), .int .u64 (wd1 (lowN (subN b a) m)), .int .u64 (wd2 (lowN (subN b a) m)), .int .u64 (wd3 (lowN (subN b a) m))]] w fun e w' =>
      e = .returned (.agg #[.int .u64 (wd0 (lowN b m)), .int .u64 (wd1 (lowN b m)), .int .u64 (wd2 (lowN b m)), .int .u64 (wd3 (lowN b m))]) ∧ Below w.heap.size w w' := by
  have h := zzadd_any (w := w) hS m1 m2 ha (big_lowN m (big_subN b a))
  rw [arc_lands (by omega) ha] at h
  exact h

/-- What the last statement reads stays as it is. -/
structure SL (B : Nat) (W w' : World) : Prop where
  low : Below B W w'
theorem SL.call {B : Nat} {W w1 w2 : World} (h : SL B W w1) (hB : B ≤ W.heap.size) (hb : Below w1.heap.size w1 w2) : SL B W w2 := ⟨h.low.trans (hb.mono (Nat.le_trans hB h.low.size))⟩

set_option maxRecDepth 100000 in
set_option maxHeartbeats 2000000 in
theorem law1_on {S : Int} {a b m : Nat} {w : World} (hS : Hid (S = 160 - (m : Int))) (hM : Hid (160 - S = (m : Int))) (m1 : 0 < m) (m2 : m ≤ 160) (h0 : 0 ≤ S) (h1 : S ≤ 159) (ha : Big a) (hb : Big b) (da : decide (lowN a 160 = a) = true) (db : decide (lowN b 160 = b) = true) :
    Calls Try.prog 3 #[.int .u64 S, .agg #[.int .u64 (wd0 a), .int .u64 (wd1 a), .int .u64 (wd2 a), .int .u64 (wd3 a)], .agg #[.int .u64 (wd0 b), .int .u64 (wd1 b), .int .u64 (wd2 b), .int .u64 (wd3 b)]] w fun e w' => e = .returned (.bool true) ∧ Below w.heap.size w w' := by
  have t1 : True := trivial
  have t2 : True := trivial
  have t3 : True := trivial
  have t4 : True := trivial
  have t5 : True := trivial
  have t6 : True := trivial
  have t7 : True := trivial
  have t8 : True := trivial
  go_enter Try.func3, Try.ntmps3
  go_wp2_with (first
    | (go_at_call 6; have _u := t1; refine (onRing_any h160 (by decide) (by decide) ha).mono ?_; rintro e w1 ⟨rfl, hb1⟩; clear t1; have hw1 := below_call (ab_below w a b) hb1; have kA := (ab_a w a b).call hb1; have kB := (ab_b w a b).call hb1; clear hb1; obtain ⟨cb0, cb1, cb2, cb3⟩ := kB.c4; have cbl := kB.lt)
    | (go_at_call 6; have _u := t2; refine (onRing_any h160 (by decide) (by decide) hb).mono ?_; rintro e w2 ⟨rfl, hb2⟩; clear t2 cb0 cb1 cb2 cb3 cbl; have hw2 := below_call hw1 hb2; have jA := kA.call hb2; have jB := kB.call hb2; clear hb2 kA kB hw1)
    | (go_at_call 7; refine space_any.mono ?_; rintro e w3 ⟨rfl, hb3⟩; have hw3 := below_call hw2 hb3; have kA := jA.call hb3; have kB := jB.call hb3; clear hb3 jA jB hw2; obtain ⟨ca0, ca1, ca2, ca3⟩ := kA.c4; have cal := kA.lt)
    | (go_at_call 8; have _u := t3; refine (id_any (v := a)).mono ?_; rintro e w4 ⟨rfl, hb4⟩; clear t3 ca0 ca1 ca2 ca3 cal; have hw4 := below_call (hw3.alloc hw3.size (.cells #[.int .u64 S] 27)) hb4; have jA := (kA.alloc (.cells #[.int .u64 S] 27)).call hb4; have jB := (kB.alloc (.cells #[.int .u64 S] 27)).call hb4; have jS := (Blk.new w3 27 #[.int .u64 S]).call hb4; clear hb4 kA kB hw3; obtain ⟨cb0, cb1, cb2, cb3⟩ := jB.c4; have cbl := jB.lt)
    | (go_at_call 8; have _u := t4; refine (id_any (v := b)).mono ?_; rintro e w5 ⟨rfl, hb5⟩; clear t4 cb0 cb1 cb2 cb3 cbl; have hw5 := below_call (hw4.alloc hw4.size (.cells (W4 (wd0 a) (wd1 a) (wd2 a) (wd3 a)) 31)) hb5; have kA := (jA.alloc (.cells (W4 (wd0 a) (wd1 a) (wd2 a) (wd3 a)) 31)).call hb5; have kB := (jB.alloc (.cells (W4 (wd0 a) (wd1 a) (wd2 a) (wd3 a)) 31)).call hb5; have kS := (jS.alloc (.cells (W4 (wd0 a) (wd1 a) (wd2 a) (wd3 a)) 31)).call hb5; have kP := (Blk.new w4 31 (W4 (wd0 a) (wd1 a) (wd2 a) (wd3 a))).call hb5; clear hb5 jA jB jS hw4; have cs := kS.cell 0; have csl := kS.lt; simp at cs; obtain ⟨cp0, cp1, cp2, cp3⟩ := kP.c4; have cpl := kP.lt)
    | (go_at_call 9; refine (arcs_any hS m1 m2 ha hb).mono ?_; rintro e w6 ⟨rfl, hb6⟩; clear cs csl cp0 cp1 cp2 cp3 cpl; have hw6 := below_call (hw5.alloc hw5.size (.cells (W4 (wd0 b) (wd1 b) (wd2 b) (wd3 b)) 31)) hb6; have jA := (kA.alloc (.cells (W4 (wd0 b) (wd1 b) (wd2 b) (wd3 b)) 31)).call hb6; have jB := (kB.alloc (.cells (W4 (wd0 b) (wd1 b) (wd2 b) (wd3 b)) 31)).call hb6; have jS := (kS.alloc (.cells (W4 (wd0 b) (wd1 b) (wd2 b) (wd3 b)) 31)).call hb6; have jP := (kP.alloc (.cells (W4 (wd0 b) (wd1 b) (wd2 b) (wd3 b)) 31)).call hb6; have jQ := (Blk.new w5 31 (W4 (wd0 b) (wd1 b) (wd2 b) (wd3 b))).call hb6; clear hb6 kA kB kS kP hw5; have cs := jS.cell 0; have csl := jS.lt; simp at cs; obtain ⟨cp0, cp1, cp2, cp3⟩ := jP.c4; have cpl := jP.lt)
    | (go_at_call 11; have _u := t5; refine (zzadd_back hS m1 m2 ha hb).mono ?_; rintro e w7 ⟨rfl, hb7⟩; clear t5 cs csl cp0 cp1 cp2 cp3 cpl; have hw7 := below_call ((hw6.alloc hw6.size (.cells (W4 (wd0 (lowN (subN b a) m)) (wd1 (lowN (subN b a) m)) (wd2 (lowN (subN b a) m)) (wd3 (lowN (subN b a) m))) 31)).alloc (by simp; have h := hw6.size; omega) (.cells (W4 (wd0 (lowN (subN a b) m)) (wd1 (lowN (subN a b) m)) (wd2 (lowN (subN a b) m)) (wd3 (lowN (subN a b) m))) 31)) hb7; have kA := ((jA.alloc (.cells (W4 (wd0 (lowN (subN b a) m)) (wd1 (lowN (subN b a) m)) (wd2 (lowN (subN b a) m)) (wd3 (lowN (subN b a) m))) 31)).alloc (.cells (W4 (wd0 (lowN (subN a b) m)) (wd1 (lowN (subN a b) m)) (wd2 (lowN (subN a b) m)) (wd3 (lowN (subN a b) m))) 31)).call hb7; have kB := ((jB.alloc (.cells (W4 (wd0 (lowN (subN b a) m)) (wd1 (lowN (subN b a) m)) (wd2 (lowN (subN b a) m)) (wd3 (lowN (subN b a) m))) 31)).alloc (.cells (W4 (wd0 (lowN (subN a b) m)) (wd1 (lowN (subN a b) m)) (wd2 (lowN (subN a b) m)) (wd3 (lowN (subN a b) m))) 31)).call hb7; have kS := ((jS.alloc (.cells (W4 (wd0 (lowN (subN b a) m)) (wd1 (lowN (subN b a) m)) (wd2 (lowN (subN b a) m)) (wd3 (lowN (subN b a) m))) 31)).alloc (.cells (W4 (wd0 (lowN (subN a b) m)) (wd1 (lowN (subN a b) m)) (wd2 (lowN (subN a b) m)) (wd3 (lowN (subN a b) m))) 31)).call hb7; have kQ := ((jQ.alloc (.cells (W4 (wd0 (lowN (subN b a) m)) (wd1 (lowN (subN b a) m)) (wd2 (lowN (subN b a) m)) (wd3 (lowN (subN b a) m))) 31)).alloc (.cells (W4 (wd0 (lowN (subN a b) m)) (wd1 (lowN (subN a b) m)) (wd2 (lowN (subN a b) m)) (wd3 (lowN (subN a b) m))) 31)).call hb7; have kR := (Blk.new2 w6 (.cells (W4 (wd0 (lowN (subN b a) m)) (wd1 (lowN (subN b a) m)) (wd2 (lowN (subN b a) m)) (wd3 (lowN (subN b a) m))) 31) 31 (W4 (wd0 (lowN (subN a b) m)) (wd1 (lowN (subN a b) m)) (wd2 (lowN (subN a b) m)) (wd3 (lowN (subN a b) m)))).call hb7; clear hb7 jA jB jS jP jQ hw6)
    | (go_at_call 10; have _u := t6; refine words_any.mono ?_; rintro e w8 ⟨rfl, hb8⟩; clear t6; have hw8 := below_call hw7 hb8; have jA := kA.call hb8; have jB := kB.call hb8; have jS := kS.call hb8; have jQ := kQ.call hb8; have jR := kR.call hb8; clear hb8 kA kB kS kQ kR hw7; have cs := jS.cell 0; have csl := jS.lt; simp at cs; obtain ⟨cq0, cq1, cq2, cq3⟩ := jQ.c4; have cql := jQ.lt; obtain ⟨cr0, cr1, cr2, cr3⟩ := jR.c4; have crl := jR.lt)
    | (go_at_call 11; have _u := t7; refine (zzadd_back hS m1 m2 hb ha).mono ?_; rintro e w9 ⟨rfl, hb9⟩; clear t7 cs csl cq0 cq1 cq2 cq3 cql cr0 cr1 cr2 cr3 crl; have hw9 := below_call (hw8.alloc hw8.size (.cells (W4 (wd0 (lowN b m)) (wd1 (lowN b m)) (wd2 (lowN b m)) (wd3 (lowN b m))) 24)) hb9; have kA := (jA.alloc (.cells (W4 (wd0 (lowN b m)) (wd1 (lowN b m)) (wd2 (lowN b m)) (wd3 (lowN b m))) 24)).call hb9; have kB := (jB.alloc (.cells (W4 (wd0 (lowN b m)) (wd1 (lowN b m)) (wd2 (lowN b m)) (wd3 (lowN b m))) 24)).call hb9; have kX := (Blk.new w8 24 (W4 (wd0 (lowN b m)) (wd1 (lowN b m)) (wd2 (lowN b m)) (wd3 (lowN b m)))).call hb9; clear hb9 jA jB jS jQ jR hw8)
    | (go_at_call 10; have _u := t8; refine words_any.mono ?_; rintro e w10 ⟨rfl, hb10⟩; clear t8; have hw10 := below_call hw9 hb10; have jA := kA.call hb10; have jB := kB.call hb10; have jX := kX.call hb10; clear hb10 kA kB kX hw9))
  have hlt : w10.heap.size + 1 ≤ (w10.alloc (.cells (W4 (wd0 (lowN a m)) (wd1 (lowN a m)) (wd2 (lowN a m)) (wd3 (lowN a m))) 24)).heap.size := by simp
  have nA : ∀ w', SL (w10.heap.size + 1) (w10.alloc (.cells (W4 (wd0 (lowN a m)) (wd1 (lowN a m)) (wd2 (lowN a m)) (wd3 (lowN a m))) 24)) w' → Blk w' w.heap.size 24 (W4 (wd0 a) (wd1 a) (wd2 a) (wd3 a)) := fun w' h => (jA.alloc (.cells (W4 (wd0 (lowN a m)) (wd1 (lowN a m)) (wd2 (lowN a m)) (wd3 (lowN a m))) 24)).below h.low (Nat.lt_succ_of_lt jA.lt)
  have nB : ∀ w', SL (w10.heap.size + 1) (w10.alloc (.cells (W4 (wd0 (lowN a m)) (wd1 (lowN a m)) (wd2 (lowN a m)) (wd3 (lowN a m))) 24)) w' → Blk w' (w.heap.size + 1) 24 (W4 (wd0 b) (wd1 b) (wd2 b) (wd3 b)) := fun w' h => (jB.alloc (.cells (W4 (wd0 (lowN a m)) (wd1 (lowN a m)) (wd2 (lowN a m)) (wd3 (lowN a m))) 24)).below h.low (Nat.lt_succ_of_lt jB.lt)
  have nX : ∀ w', SL (w10.heap.size + 1) (w10.alloc (.cells (W4 (wd0 (lowN a m)) (wd1 (lowN a m)) (wd2 (lowN a m)) (wd3 (lowN a m))) 24)) w' → Blk w' w8.heap.size 24 (W4 (wd0 (lowN b m)) (wd1 (lowN b m)) (wd2 (lowN b m)) (wd3 (lowN b m))) := fun w' h => (jX.alloc (.cells (W4 (wd0 (lowN a m)) (wd1 (lowN a m)) (wd2 (lowN a m)) (wd3 (lowN a m))) 24)).below h.low (Nat.lt_succ_of_lt jX.lt)
  have nY : ∀ w', SL (w10.heap.size + 1) (w10.alloc (.cells (W4 (wd0 (lowN a m)) (wd1 (lowN a m)) (wd2 (lowN a m)) (wd3 (lowN a m))) 24)) w' → Blk w' w10.heap.size 24 (W4 (wd0 (lowN a m)) (wd1 (lowN a m)) (wd2 (lowN a m)) (wd3 (lowN a m))) := fun w' h => (Blk.new w10 24 _).below h.low (Nat.lt_succ_self _)
  have nA0 : ∀ w', SL (w10.heap.size + 1) (w10.alloc (.cells (W4 (wd0 (lowN a m)) (wd1 (lowN a m)) (wd2 (lowN a m)) (wd3 (lowN a m))) 24)) w' → w'.cell? ⟨w.heap.size, 0, none⟩ = some (.int .u64 (wd0 a)) := fun w' h => (nA w' h).cell 0
  have nA1 : ∀ w', SL (w10.heap.size + 1) (w10.alloc (.cells (W4 (wd0 (lowN a m)) (wd1 (lowN a m)) (wd2 (lowN a m)) (wd3 (lowN a m))) 24)) w' → w'.cell? ⟨w.heap.size, 1, none⟩ = some (.int .u64 (wd1 a)) := fun w' h => (nA w' h).cell 1
  have nA2 : ∀ w', SL (w10.heap.size + 1) (w10.alloc (.cells (W4 (wd0 (lowN a m)) (wd1 (lowN a m)) (wd2 (lowN a m)) (wd3 (lowN a m))) 24)) w' → w'.cell? ⟨w.heap.size, 2, none⟩ = some (.int .u64 (wd2 a)) := fun w' h => (nA w' h).cell 2
  have nA3 : ∀ w', SL (w10.heap.size + 1) (w10.alloc (.cells (W4 (wd0 (lowN a m)) (wd1 (lowN a m)) (wd2 (lowN a m)) (wd3 (lowN a m))) 24)) w' → w'.cell? ⟨w.heap.size, 3, none⟩ = some (.int .u64 (wd3 a)) := fun w' h => (nA w' h).cell 3
  have nB0 : ∀ w', SL (w10.heap.size + 1) (w10.alloc (.cells (W4 (wd0 (lowN a m)) (wd1 (lowN a m)) (wd2 (lowN a m)) (wd3 (lowN a m))) 24)) w' → w'.cell? ⟨w.heap.size + 1, 0, none⟩ = some (.int .u64 (wd0 b)) := fun w' h => (nB w' h).cell 0
  have nB1 : ∀ w', SL (w10.heap.size + 1) (w10.alloc (.cells (W4 (wd0 (lowN a m)) (wd1 (lowN a m)) (wd2 (lowN a m)) (wd3 (lowN a m))) 24)) w' → w'.cell? ⟨w.heap.size + 1, 1, none⟩ = some (.int .u64 (wd1 b)) := fun w' h => (nB w' h).cell 1
  have nB2 : ∀ w', SL (w10.heap.size + 1) (w10.alloc (.cells (W4 (wd0 (lowN a m)) (wd1 (lowN a m)) (wd2 (lowN a m)) (wd3 (lowN a m))) 24)) w' → w'.cell? ⟨w.heap.size + 1, 2, none⟩ = some (.int .u64 (wd2 b)) := fun w' h => (nB w' h).cell 2
  have nB3 : ∀ w', SL (w10.heap.size + 1) (w10.alloc (.cells (W4 (wd0 (lowN a m)) (wd1 (lowN a m)) (wd2 (lowN a m)) (wd3 (lowN a m))) 24)) w' → w'.cell? ⟨w.heap.size + 1, 3, none⟩ = some (.int .u64 (wd3 b)) := fun w' h => (nB w' h).cell 3
  have nX0 : ∀ w', SL (w10.heap.size + 1) (w10.alloc (.cells (W4 (wd0 (lowN a m)) (wd1 (lowN a m)) (wd2 (lowN a m)) (wd3 (lowN a m))) 24)) w' → w'.cell? ⟨w8.heap.size, 0, none⟩ = some (.int .u64 (wd0 (lowN b m))) := fun w' h => (nX w' h).cell 0
  have nX1 : ∀ w', SL (w10.heap.size + 1) (w10.alloc (.cells (W4 (wd0 (lowN a m)) (wd1 (lowN a m)) (wd2 (lowN a m)) (wd3 (lowN a m))) 24)) w' → w'.cell? ⟨w8.heap.size, 1, none⟩ = some (.int .u64 (wd1 (lowN b m))) := fun w' h => (nX w' h).cell 1
  have nX2 : ∀ w', SL (w10.heap.size + 1) (w10.alloc (.cells (W4 (wd0 (lowN a m)) (wd1 (lowN a m)) (wd2 (lowN a m)) (wd3 (lowN a m))) 24)) w' → w'.cell? ⟨w8.heap.size, 2, none⟩ = some (.int .u64 (wd2 (lowN b m))) := fun w' h => (nX w' h).cell 2
  have nX3 : ∀ w', SL (w10.heap.size + 1) (w10.alloc (.cells (W4 (wd0 (lowN a m)) (wd1 (lowN a m)) (wd2 (lowN a m)) (wd3 (lowN a m))) 24)) w' → w'.cell? ⟨w8.heap.size, 3, none⟩ = some (.int .u64 (wd3 (lowN b m))) := fun w' h => (nX w' h).cell 3
  have nY0 : ∀ w', SL (w10.heap.size + 1) (w10.alloc (.cells (W4 (wd0 (lowN a m)) (wd1 (lowN a m)) (wd2 (lowN a m)) (wd3 (lowN a m))) 24)) w' → w'.cell? ⟨w10.heap.size, 0, none⟩ = some (.int .u64 (wd0 (lowN a m))) := fun w' h => (nY w' h).cell 0
  have nY1 : ∀ w', SL (w10.heap.size + 1) (w10.alloc (.cells (W4 (wd0 (lowN a m)) (wd1 (lowN a m)) (wd2 (lowN a m)) (wd3 (lowN a m))) 24)) w' → w'.cell? ⟨w10.heap.size, 1, none⟩ = some (.int .u64 (wd1 (lowN a m))) := fun w' h => (nY w' h).cell 1
  have nY2 : ∀ w', SL (w10.heap.size + 1) (w10.alloc (.cells (W4 (wd0 (lowN a m)) (wd1 (lowN a m)) (wd2 (lowN a m)) (wd3 (lowN a m))) 24)) w' → w'.cell? ⟨w10.heap.size, 2, none⟩ = some (.int .u64 (wd2 (lowN a m))) := fun w' h => (nY w' h).cell 2
  have nY3 : ∀ w', SL (w10.heap.size + 1) (w10.alloc (.cells (W4 (wd0 (lowN a m)) (wd1 (lowN a m)) (wd2 (lowN a m)) (wd3 (lowN a m))) 24)) w' → w'.cell? ⟨w10.heap.size, 3, none⟩ = some (.int .u64 (wd3 (lowN a m))) := fun w' h => (nY w' h).cell 3
  have eb := eqlSelf (big_lowN m hb)
  have ea := eqlSelf (big_lowN m ha)
  have hfin : Below w.heap.size w (w10.alloc (.cells (W4 (wd0 (lowN a m)) (wd1 (lowN a m)) (wd2 (lowN a m)) (wd3 (lowN a m))) 24)) := hw10.alloc hw10.size _
  have hfs : w.heap.size ≤ w10.heap.size + 1 := Nat.le_succ_of_le hw10.size
  clear nA nB nX nY jA jB jX da db hw10
  go_region_held3 (SL (w10.heap.size + 1) (w10.alloc (.cells (W4 (wd0 (lowN a m)) (wd1 (lowN a m)) (wd2 (lowN a m)) (wd3 (lowN a m))) 24))) (first
      | exact g2
      | exact ⟨(Below.refl _ _).drew⟩)
    (first | (go_at_call 12; refine (mask_any hM m1 m2).mono ?_; rintro e w2 ⟨rfl, hb2⟩; have g2 : SL (w10.heap.size + 1) (w10.alloc (.cells (W4 (wd0 (lowN a m)) (wd1 (lowN a m)) (wd2 (lowN a m)) (wd3 (lowN a m))) 24)) w2 := (by refine SL.call ?_ hlt hb2; assumption)))
  go_wp2
  go_ret
  exact ⟨rfl, hfin.trans (g2.low.mono hfs)⟩

end Go.Proofs.Qxb6614289a
