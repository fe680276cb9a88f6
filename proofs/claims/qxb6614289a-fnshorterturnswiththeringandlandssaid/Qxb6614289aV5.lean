/-
  Seat b6614289a: the third law's walk.
-/
import Derived.Test.Qxb6614289aV3
namespace Go.Proofs.Qxb6614289a
open Go.RowKit

/-- A world in which the boxes of a, b and c lie first. -/
def abc (w : World) (a b c : Nat) : World := (ab w a b).alloc (.cells (W4 (wd0 c) (wd1 c) (wd2 c) (wd3 c)) 24)
theorem ab_size (w : World) (a b : Nat) : (ab w a b).heap.size = w.heap.size + 1 + 1 := by unfold ab; simp
theorem abc_a (w : World) (a b c : Nat) : Blk (abc w a b c) w.heap.size 24 (W4 (wd0 a) (wd1 a) (wd2 a) (wd3 a)) := (ab_a w a b).alloc _
theorem abc_b (w : World) (a b c : Nat) : Blk (abc w a b c) (w.heap.size + 1) 24 (W4 (wd0 b) (wd1 b) (wd2 b) (wd3 b)) := (ab_b w a b).alloc _
theorem abc_c (w : World) (a b c : Nat) : Blk (abc w a b c) (w.heap.size + 1 + 1) 24 (W4 (wd0 c) (wd1 c) (wd2 c) (wd3 c)) := by
  have h := Blk.new (ab w a b) 24 (W4 (wd0 c) (wd1 c) (wd2 c) (wd3 c))
  rwa [ab_size] at h
theorem abc_below (w : World) (a b c : Nat) : Below w.heap.size w (abc w a b c) := (ab_below w a b).alloc (by rw [ab_size]; omega) _


set_option maxRecDepth 100000 in
set_option maxHeartbeats 4000000 in
theorem law3_anti {S : Int} {a b c pa pb cw aw N r : Nat} {w : World} (c13 : Hid (∀ w, Calls Try.prog 13 #[.agg #[.int .u64 S], .agg #[.int .u64 (wd0 a), .int .u64 (wd1 a), .int .u64 (wd2 a), .int .u64 (wd3 a)], .agg #[.int .u64 (wd0 b), .int .u64 (wd1 b), .int .u64 (wd2 b), .int .u64 (wd3 b)]] w fun e w' => e = .returned (.int .i64 1) ∧ Below w.heap.size w w'))
    (c11a : Hid (∀ w, Calls Try.prog 11 #[.agg #[.int .u64 S], .agg #[.int .u64 (wd0 a), .int .u64 (wd1 a), .int .u64 (wd2 a), .int .u64 (wd3 a)], .agg #[.int .u64 (wd0 c), .int .u64 (wd1 c), .int .u64 (wd2 c), .int .u64 (wd3 c)]] w fun e w' => e = .returned (.agg #[.int .u64 (wd0 pa), .int .u64 (wd1 pa), .int .u64 (wd2 pa), .int .u64 (wd3 pa)]) ∧ Below w.heap.size w w'))
    (c11b : Hid (∀ w, Calls Try.prog 11 #[.agg #[.int .u64 S], .agg #[.int .u64 (wd0 b), .int .u64 (wd1 b), .int .u64 (wd2 b), .int .u64 (wd3 b)], .agg #[.int .u64 (wd0 c), .int .u64 (wd1 c), .int .u64 (wd2 c), .int .u64 (wd3 c)]] w fun e w' => e = .returned (.agg #[.int .u64 (wd0 pb), .int .u64 (wd1 pb), .int .u64 (wd2 pb), .int .u64 (wd3 pb)]) ∧ Below w.heap.size w w'))
    (c13t : Hid (∀ w, Calls Try.prog 13 #[.agg #[.int .u64 S], .agg #[.int .u64 (wd0 pa), .int .u64 (wd1 pa), .int .u64 (wd2 pa), .int .u64 (wd3 pa)], .agg #[.int .u64 (wd0 pb), .int .u64 (wd1 pb), .int .u64 (wd2 pb), .int .u64 (wd3 pb)]] w fun e w' => e = .returned (.int .i64 1) ∧ Below w.heap.size w w'))
    (c9 : Hid (∀ w, Calls Try.prog 9 #[.agg #[.int .u64 S], .agg #[.int .u64 (wd0 a), .int .u64 (wd1 a), .int .u64 (wd2 a), .int .u64 (wd3 a)], .agg #[.int .u64 (wd0 b), .int .u64 (wd1 b), .int .u64 (wd2 b), .int .u64 (wd3 b)]] w fun e w' => e = .returned (.tuple #[.agg #[.int .u64 (wd0 cw), .int .u64 (wd1 cw), .int .u64 (wd2 cw), .int .u64 (wd3 cw)], .agg #[.int .u64 (wd0 aw), .int .u64 (wd1 aw), .int .u64 (wd2 aw), .int .u64 (wd3 aw)]]) ∧ Below w.heap.size w w'))
    (c15 : Hid (∀ w, Calls Try.prog 15 #[.int .i64 (160 - S)] w fun e w' => e = .returned (.agg #[.int .u64 (wd0 N), .int .u64 (wd1 N), .int .u64 (wd2 N), .int .u64 (wd3 N)]) ∧ Below w.heap.size w w'))
    (hr : Big r)
    (c17 : Hid (∀ w, Calls Try.prog 17 #[.agg #[.int .u64 (wd0 aw), .int .u64 (wd1 aw), .int .u64 (wd2 aw), .int .u64 (wd3 aw)], .agg #[.int .u64 (wd0 N), .int .u64 (wd1 N), .int .u64 (wd2 N), .int .u64 (wd3 N)]] w fun e w' => e = .returned (.bool true) ∧ Below w.heap.size w w'))
    (c11 : Hid (∀ w, Calls Try.prog 11 #[.agg #[.int .u64 S], .agg #[.int .u64 (wd0 b), .int .u64 (wd1 b), .int .u64 (wd2 b), .int .u64 (wd3 b)], .agg #[.int .u64 (wd0 aw), .int .u64 (wd1 aw), .int .u64 (wd2 aw), .int .u64 (wd3 aw)]] w fun e w' => e = .returned (.agg #[.int .u64 (wd0 r), .int .u64 (wd1 r), .int .u64 (wd2 r), .int .u64 (wd3 r)]) ∧ Below w.heap.size w w'))
    (c12 : Hid (∀ w, Calls Try.prog 12 #[.agg #[.int .u64 (wd0 a), .int .u64 (wd1 a), .int .u64 (wd2 a), .int .u64 (wd3 a)], .int .i64 (160 - S)] w fun e w' => e = .returned (.agg #[.int .u64 (wd0 r), .int .u64 (wd1 r), .int .u64 (wd2 r), .int .u64 (wd3 r)]) ∧ Below w.heap.size w w'))
    (h0 : 0 ≤ S) (h1 : S ≤ 159) (ha : Big a) (hb : Big b) (da : decide (lowN a 160 = a) = true) (db : decide (lowN b 160 = b) = true) :
    Calls Try.prog 5 #[.int .u64 S, .agg #[.int .u64 (wd0 a), .int .u64 (wd1 a), .int .u64 (wd2 a), .int .u64 (wd3 a)], .agg #[.int .u64 (wd0 b), .int .u64 (wd1 b), .int .u64 (wd2 b), .int .u64 (wd3 b)], .agg #[.int .u64 (wd0 c), .int .u64 (wd1 c), .int .u64 (wd2 c), .int .u64 (wd3 c)]] w fun e w' => e = .returned (.bool true) ∧ Below w.heap.size w w' := by
  have t1 : True := trivial
  have t2 : True := trivial
  have t3 : True := trivial
  have t4 : True := trivial
  have t5 : True := trivial
  have er := eqlSelf hr
  go_enter Try.func5, Try.ntmps5
  go_wp2_with (first
    | (go_at_call 6; have _u := t1; refine (onRing_any h160 (by decide) (by decide) ha).mono ?_; rintro e w1 ⟨rfl, hb1⟩; clear t1; have hw1 := below_call (abc_below w a b c) hb1; have kA := (abc_a w a b c).call hb1; have kB := (abc_b w a b c).call hb1; have kC := (abc_c w a b c).call hb1; clear hb1; obtain ⟨cb0, cb1, cb2, cb3⟩ := kB.c4; have cbl := kB.lt)
    | (go_at_call 6; have _u := t2; refine (onRing_any h160 (by decide) (by decide) hb).mono ?_; rintro e w2 ⟨rfl, hb2⟩; clear t2 cb0 cb1 cb2 cb3 cbl; have hw2 := below_call hw1 hb2; have jA := kA.call hb2; have jB := kB.call hb2; have jC := kC.call hb2; clear hb2 kA kB kC hw1)
    | (go_at_call 7; refine space_any.mono ?_; rintro e w3 ⟨rfl, hb3⟩; have hw3 := below_call hw2 hb3; have kA := jA.call hb3; have kB := jB.call hb3; have kC := jC.call hb3; clear hb3 jA jB jC hw2; obtain ⟨ca0, ca1, ca2, ca3⟩ := kA.c4; have cal := kA.lt)
    | (go_at_call 8; have _u := t3; refine (id_any (v := a)).mono ?_; rintro e w4 ⟨rfl, hb4⟩; clear t3 ca0 ca1 ca2 ca3 cal; have hw4 := below_call (hw3.alloc hw3.size (.cells #[.int .u64 S] 27)) hb4; have jA := (kA.alloc (.cells #[.int .u64 S] 27)).call hb4; have jB := (kB.alloc (.cells #[.int .u64 S] 27)).call hb4; have jC := (kC.alloc (.cells #[.int .u64 S] 27)).call hb4; have jS := (Blk.new w3 27 #[.int .u64 S]).call hb4; clear hb4 kA kB kC hw3; obtain ⟨cb0, cb1, cb2, cb3⟩ := jB.c4; have cbl := jB.lt)
    | (go_at_call 8; have _u := t4; refine (id_any (v := b)).mono ?_; rintro e w5 ⟨rfl, hb5⟩; clear t4 cb0 cb1 cb2 cb3 cbl; have hw5 := below_call (hw4.alloc hw4.size (.cells (W4 (wd0 a) (wd1 a) (wd2 a) (wd3 a)) 31)) hb5; have kA := (jA.alloc (.cells (W4 (wd0 a) (wd1 a) (wd2 a) (wd3 a)) 31)).call hb5; have kB := (jB.alloc (.cells (W4 (wd0 a) (wd1 a) (wd2 a) (wd3 a)) 31)).call hb5; have kC := (jC.alloc (.cells (W4 (wd0 a) (wd1 a) (wd2 a) (wd3 a)) 31)).call hb5; have kS := (jS.alloc (.cells (W4 (wd0 a) (wd1 a) (wd2 a) (wd3 a)) 31)).call hb5; have kP := (Blk.new w4 31 (W4 (wd0 a) (wd1 a) (wd2 a) (wd3 a))).call hb5; clear hb5 jA jB jC jS hw4; obtain ⟨cc0, cc1, cc2, cc3⟩ := kC.c4; have ccl := kC.lt)
    | (go_at_call 8; have _u := t5; refine (id_any (v := c)).mono ?_; rintro e w6 ⟨rfl, hb6⟩; clear t5 cc0 cc1 cc2 cc3 ccl; have hw6 := below_call (hw5.alloc hw5.size (.cells (W4 (wd0 b) (wd1 b) (wd2 b) (wd3 b)) 31)) hb6; have jA := (kA.alloc (.cells (W4 (wd0 b) (wd1 b) (wd2 b) (wd3 b)) 31)).call hb6; have jB := (kB.alloc (.cells (W4 (wd0 b) (wd1 b) (wd2 b) (wd3 b)) 31)).call hb6; have jC := (kC.alloc (.cells (W4 (wd0 b) (wd1 b) (wd2 b) (wd3 b)) 31)).call hb6; have jS := (kS.alloc (.cells (W4 (wd0 b) (wd1 b) (wd2 b) (wd3 b)) 31)).call hb6; have jP := (kP.alloc (.cells (W4 (wd0 b) (wd1 b) (wd2 b) (wd3 b)) 31)).call hb6; have jQ := (Blk.new w5 31 (W4 (wd0 b) (wd1 b) (wd2 b) (wd3 b))).call hb6; clear hb6 kA kB kC kS kP hw5; have cs := jS.cell 0; have csl := jS.lt; simp at cs; obtain ⟨cp0, cp1, cp2, cp3⟩ := jP.c4; have cpl := jP.lt; obtain ⟨cq0, cq1, cq2, cq3⟩ := jQ.c4; have cql := jQ.lt)
    | (go_at_call 13; refine (c13.out _).mono ?_; rintro e w7 ⟨rfl, hb7⟩; clear cs csl cp0 cp1 cp2 cp3 cpl cq0 cq1 cq2 cq3 cql; have hw7 := below_call (hw6.alloc hw6.size (.cells (W4 (wd0 c) (wd1 c) (wd2 c) (wd3 c)) 31)) hb7; have kA := (jA.alloc (.cells (W4 (wd0 c) (wd1 c) (wd2 c) (wd3 c)) 31)).call hb7; have kB := (jB.alloc (.cells (W4 (wd0 c) (wd1 c) (wd2 c) (wd3 c)) 31)).call hb7; have kS := (jS.alloc (.cells (W4 (wd0 c) (wd1 c) (wd2 c) (wd3 c)) 31)).call hb7; have kP := (jP.alloc (.cells (W4 (wd0 c) (wd1 c) (wd2 c) (wd3 c)) 31)).call hb7; have kQ := (jQ.alloc (.cells (W4 (wd0 c) (wd1 c) (wd2 c) (wd3 c)) 31)).call hb7; have kR := (Blk.new w6 31 (W4 (wd0 c) (wd1 c) (wd2 c) (wd3 c))).call hb7; clear hb7 jA jB jC jS jP jQ hw6))
  have nP0 : ∀ w', SL w7.heap.size w7 w' → w'.cell? ⟨w4.heap.size, 0, none⟩ = some (.int .u64 (wd0 a)) := fun w' h => (kP.below h.low kP.lt).cell 0
  have nP1 : ∀ w', SL w7.heap.size w7 w' → w'.cell? ⟨w4.heap.size, 1, none⟩ = some (.int .u64 (wd1 a)) := fun w' h => (kP.below h.low kP.lt).cell 1
  have nP2 : ∀ w', SL w7.heap.size w7 w' → w'.cell? ⟨w4.heap.size, 2, none⟩ = some (.int .u64 (wd2 a)) := fun w' h => (kP.below h.low kP.lt).cell 2
  have nP3 : ∀ w', SL w7.heap.size w7 w' → w'.cell? ⟨w4.heap.size, 3, none⟩ = some (.int .u64 (wd3 a)) := fun w' h => (kP.below h.low kP.lt).cell 3
  have nQ0 : ∀ w', SL w7.heap.size w7 w' → w'.cell? ⟨w5.heap.size, 0, none⟩ = some (.int .u64 (wd0 b)) := fun w' h => (kQ.below h.low kQ.lt).cell 0
  have nQ1 : ∀ w', SL w7.heap.size w7 w' → w'.cell? ⟨w5.heap.size, 1, none⟩ = some (.int .u64 (wd1 b)) := fun w' h => (kQ.below h.low kQ.lt).cell 1
  have nQ2 : ∀ w', SL w7.heap.size w7 w' → w'.cell? ⟨w5.heap.size, 2, none⟩ = some (.int .u64 (wd2 b)) := fun w' h => (kQ.below h.low kQ.lt).cell 2
  have nQ3 : ∀ w', SL w7.heap.size w7 w' → w'.cell? ⟨w5.heap.size, 3, none⟩ = some (.int .u64 (wd3 b)) := fun w' h => (kQ.below h.low kQ.lt).cell 3
  have nR0 : ∀ w', SL w7.heap.size w7 w' → w'.cell? ⟨w6.heap.size, 0, none⟩ = some (.int .u64 (wd0 c)) := fun w' h => (kR.below h.low kR.lt).cell 0
  have nR1 : ∀ w', SL w7.heap.size w7 w' → w'.cell? ⟨w6.heap.size, 1, none⟩ = some (.int .u64 (wd1 c)) := fun w' h => (kR.below h.low kR.lt).cell 1
  have nR2 : ∀ w', SL w7.heap.size w7 w' → w'.cell? ⟨w6.heap.size, 2, none⟩ = some (.int .u64 (wd2 c)) := fun w' h => (kR.below h.low kR.lt).cell 2
  have nR3 : ∀ w', SL w7.heap.size w7 w' → w'.cell? ⟨w6.heap.size, 3, none⟩ = some (.int .u64 (wd3 c)) := fun w' h => (kR.below h.low kR.lt).cell 3
  have nS : ∀ w', SL w7.heap.size w7 w' → w'.cell? ⟨w3.heap.size, 0, none⟩ = some (.int .u64 S) := fun w' h => (kS.below h.low kS.lt).cell 0
  have hlt7 : w7.heap.size ≤ w7.heap.size := Nat.le_refl _
  go_region_held3 (SL w7.heap.size w7) (first
      | exact g1
      | exact ⟨(Below.refl _ _).drew⟩)
    (first
      | (go_at_call_of 11 (wd0 a); refine (c11a.out _).mono ?_; rintro e v1 ⟨rfl, y1⟩; have g1 : SL w7.heap.size w7 v1 := (by refine SL.call ?_ hlt7 y1; assumption))
      | (go_at_call 11; refine (c11b.out _).mono ?_; rintro e v1 ⟨rfl, y1⟩; have g1 : SL w7.heap.size w7 v1 := (by refine SL.call ?_ hlt7 y1; assumption))
      | (go_at_call 13; refine (c13t.out _).mono ?_; rintro e v1 ⟨rfl, y1⟩; have g1 : SL w7.heap.size w7 v1 := (by refine SL.call ?_ hlt7 y1; assumption)))
  clear nP0 nP1 nP2 nP3 nQ0 nQ1 nQ2 nQ3 nR0 nR1 nR2 nR3 nS
  have hw8 := below_call hw7 g1.low
  have jA := kA.call g1.low
  have jB := kB.call g1.low
  have jS := kS.call g1.low
  have jP := kP.call g1.low
  have jQ := kQ.call g1.low
  clear kA kB kS kP kQ kR hw7
  have cs := jS.cell 0
  simp at cs
  obtain ⟨cp0, cp1, cp2, cp3⟩ := jP.c4
  obtain ⟨cq0, cq1, cq2, cq3⟩ := jQ.c4
  go_wp2_with (first
    | (go_at_call 9; refine (c9.out _).mono ?_; rintro e w9 ⟨rfl, hb9⟩; clear cs cp0 cp1 cp2 cp3 cq0 cq1 cq2 cq3; have hw9 := below_call hw8 hb9; have kA := jA.call hb9; have kB := jB.call hb9; have kS := jS.call hb9; have kP := jP.call hb9; have kQ := jQ.call hb9; clear hb9 jA jB jS jP jQ hw8)
    | (go_at_call 15; refine (c15.out _).mono ?_; rintro e w10 ⟨rfl, hb10⟩; have hw10 := below_call ((hw9.alloc hw9.size (.cells (W4 (wd0 cw) (wd1 cw) (wd2 cw) (wd3 cw)) 31)).alloc (by simp; have h := hw9.size; omega) (.cells (W4 (wd0 aw) (wd1 aw) (wd2 aw) (wd3 aw)) 31)) hb10; have jA := ((kA.alloc (.cells (W4 (wd0 cw) (wd1 cw) (wd2 cw) (wd3 cw)) 31)).alloc (.cells (W4 (wd0 aw) (wd1 aw) (wd2 aw) (wd3 aw)) 31)).call hb10; have jB := ((kB.alloc (.cells (W4 (wd0 cw) (wd1 cw) (wd2 cw) (wd3 cw)) 31)).alloc (.cells (W4 (wd0 aw) (wd1 aw) (wd2 aw) (wd3 aw)) 31)).call hb10; have jS := ((kS.alloc (.cells (W4 (wd0 cw) (wd1 cw) (wd2 cw) (wd3 cw)) 31)).alloc (.cells (W4 (wd0 aw) (wd1 aw) (wd2 aw) (wd3 aw)) 31)).call hb10; have jP := ((kP.alloc (.cells (W4 (wd0 cw) (wd1 cw) (wd2 cw) (wd3 cw)) 31)).alloc (.cells (W4 (wd0 aw) (wd1 aw) (wd2 aw) (wd3 aw)) 31)).call hb10; have jQ := ((kQ.alloc (.cells (W4 (wd0 cw) (wd1 cw) (wd2 cw) (wd3 cw)) 31)).alloc (.cells (W4 (wd0 aw) (wd1 aw) (wd2 aw) (wd3 aw)) 31)).call hb10; have jU := ((Blk.new w9 31 (W4 (wd0 cw) (wd1 cw) (wd2 cw) (wd3 cw))).alloc (.cells (W4 (wd0 aw) (wd1 aw) (wd2 aw) (wd3 aw)) 31)).call hb10; have jV := (Blk.new2 w9 (.cells (W4 (wd0 cw) (wd1 cw) (wd2 cw) (wd3 cw)) 31) 31 (W4 (wd0 aw) (wd1 aw) (wd2 aw) (wd3 aw))).call hb10; clear hb10 kA kB kS kP kQ hw9))
  have hlt : w10.heap.size + 1 ≤ (w10.alloc (.cells (W4 (wd0 N) (wd1 N) (wd2 N) (wd3 N)) 24)).heap.size := by simp
  have nH0 : ∀ w', SL (w10.heap.size + 1) (w10.alloc (.cells (W4 (wd0 N) (wd1 N) (wd2 N) (wd3 N)) 24)) w' → w'.cell? ⟨w10.heap.size, 0, none⟩ = some (.int .u64 (wd0 N)) := fun w' h => ((Blk.new w10 24 (W4 (wd0 N) (wd1 N) (wd2 N) (wd3 N))).below h.low (Nat.lt_succ_self _)).cell 0
  have nH1 : ∀ w', SL (w10.heap.size + 1) (w10.alloc (.cells (W4 (wd0 N) (wd1 N) (wd2 N) (wd3 N)) 24)) w' → w'.cell? ⟨w10.heap.size, 1, none⟩ = some (.int .u64 (wd1 N)) := fun w' h => ((Blk.new w10 24 (W4 (wd0 N) (wd1 N) (wd2 N) (wd3 N))).below h.low (Nat.lt_succ_self _)).cell 1
  have nH2 : ∀ w', SL (w10.heap.size + 1) (w10.alloc (.cells (W4 (wd0 N) (wd1 N) (wd2 N) (wd3 N)) 24)) w' → w'.cell? ⟨w10.heap.size, 2, none⟩ = some (.int .u64 (wd2 N)) := fun w' h => ((Blk.new w10 24 (W4 (wd0 N) (wd1 N) (wd2 N) (wd3 N))).below h.low (Nat.lt_succ_self _)).cell 2
  have nH3 : ∀ w', SL (w10.heap.size + 1) (w10.alloc (.cells (W4 (wd0 N) (wd1 N) (wd2 N) (wd3 N)) 24)) w' → w'.cell? ⟨w10.heap.size, 3, none⟩ = some (.int .u64 (wd3 N)) := fun w' h => ((Blk.new w10 24 (W4 (wd0 N) (wd1 N) (wd2 N) (wd3 N))).below h.low (Nat.lt_succ_self _)).cell 3
  have nV0 : ∀ w', SL (w10.heap.size + 1) (w10.alloc (.cells (W4 (wd0 N) (wd1 N) (wd2 N) (wd3 N)) 24)) w' → w'.cell? ⟨w9.heap.size + 1, 0, none⟩ = some (.int .u64 (wd0 aw)) := fun w' h => ((jV.alloc (.cells (W4 (wd0 N) (wd1 N) (wd2 N) (wd3 N)) 24)).below h.low (Nat.lt_succ_of_lt jV.lt)).cell 0
  have nV1 : ∀ w', SL (w10.heap.size + 1) (w10.alloc (.cells (W4 (wd0 N) (wd1 N) (wd2 N) (wd3 N)) 24)) w' → w'.cell? ⟨w9.heap.size + 1, 1, none⟩ = some (.int .u64 (wd1 aw)) := fun w' h => ((jV.alloc (.cells (W4 (wd0 N) (wd1 N) (wd2 N) (wd3 N)) 24)).below h.low (Nat.lt_succ_of_lt jV.lt)).cell 1
  have nV2 : ∀ w', SL (w10.heap.size + 1) (w10.alloc (.cells (W4 (wd0 N) (wd1 N) (wd2 N) (wd3 N)) 24)) w' → w'.cell? ⟨w9.heap.size + 1, 2, none⟩ = some (.int .u64 (wd2 aw)) := fun w' h => ((jV.alloc (.cells (W4 (wd0 N) (wd1 N) (wd2 N) (wd3 N)) 24)).below h.low (Nat.lt_succ_of_lt jV.lt)).cell 2
  have nV3 : ∀ w', SL (w10.heap.size + 1) (w10.alloc (.cells (W4 (wd0 N) (wd1 N) (wd2 N) (wd3 N)) 24)) w' → w'.cell? ⟨w9.heap.size + 1, 3, none⟩ = some (.int .u64 (wd3 aw)) := fun w' h => ((jV.alloc (.cells (W4 (wd0 N) (wd1 N) (wd2 N) (wd3 N)) 24)).below h.low (Nat.lt_succ_of_lt jV.lt)).cell 3
  have nQ0 : ∀ w', SL (w10.heap.size + 1) (w10.alloc (.cells (W4 (wd0 N) (wd1 N) (wd2 N) (wd3 N)) 24)) w' → w'.cell? ⟨w5.heap.size, 0, none⟩ = some (.int .u64 (wd0 b)) := fun w' h => ((jQ.alloc (.cells (W4 (wd0 N) (wd1 N) (wd2 N) (wd3 N)) 24)).below h.low (Nat.lt_succ_of_lt jQ.lt)).cell 0
  have nQ1 : ∀ w', SL (w10.heap.size + 1) (w10.alloc (.cells (W4 (wd0 N) (wd1 N) (wd2 N) (wd3 N)) 24)) w' → w'.cell? ⟨w5.heap.size, 1, none⟩ = some (.int .u64 (wd1 b)) := fun w' h => ((jQ.alloc (.cells (W4 (wd0 N) (wd1 N) (wd2 N) (wd3 N)) 24)).below h.low (Nat.lt_succ_of_lt jQ.lt)).cell 1
  have nQ2 : ∀ w', SL (w10.heap.size + 1) (w10.alloc (.cells (W4 (wd0 N) (wd1 N) (wd2 N) (wd3 N)) 24)) w' → w'.cell? ⟨w5.heap.size, 2, none⟩ = some (.int .u64 (wd2 b)) := fun w' h => ((jQ.alloc (.cells (W4 (wd0 N) (wd1 N) (wd2 N) (wd3 N)) 24)).below h.low (Nat.lt_succ_of_lt jQ.lt)).cell 2
  have nQ3 : ∀ w', SL (w10.heap.size + 1) (w10.alloc (.cells (W4 (wd0 N) (wd1 N) (wd2 N) (wd3 N)) 24)) w' → w'.cell? ⟨w5.heap.size, 3, none⟩ = some (.int .u64 (wd3 b)) := fun w' h => ((jQ.alloc (.cells (W4 (wd0 N) (wd1 N) (wd2 N) (wd3 N)) 24)).below h.low (Nat.lt_succ_of_lt jQ.lt)).cell 3
  have nA0 : ∀ w', SL (w10.heap.size + 1) (w10.alloc (.cells (W4 (wd0 N) (wd1 N) (wd2 N) (wd3 N)) 24)) w' → w'.cell? ⟨w.heap.size, 0, none⟩ = some (.int .u64 (wd0 a)) := fun w' h => ((jA.alloc (.cells (W4 (wd0 N) (wd1 N) (wd2 N) (wd3 N)) 24)).below h.low (Nat.lt_succ_of_lt jA.lt)).cell 0
  have nA1 : ∀ w', SL (w10.heap.size + 1) (w10.alloc (.cells (W4 (wd0 N) (wd1 N) (wd2 N) (wd3 N)) 24)) w' → w'.cell? ⟨w.heap.size, 1, none⟩ = some (.int .u64 (wd1 a)) := fun w' h => ((jA.alloc (.cells (W4 (wd0 N) (wd1 N) (wd2 N) (wd3 N)) 24)).below h.low (Nat.lt_succ_of_lt jA.lt)).cell 1
  have nA2 : ∀ w', SL (w10.heap.size + 1) (w10.alloc (.cells (W4 (wd0 N) (wd1 N) (wd2 N) (wd3 N)) 24)) w' → w'.cell? ⟨w.heap.size, 2, none⟩ = some (.int .u64 (wd2 a)) := fun w' h => ((jA.alloc (.cells (W4 (wd0 N) (wd1 N) (wd2 N) (wd3 N)) 24)).below h.low (Nat.lt_succ_of_lt jA.lt)).cell 2
  have nA3 : ∀ w', SL (w10.heap.size + 1) (w10.alloc (.cells (W4 (wd0 N) (wd1 N) (wd2 N) (wd3 N)) 24)) w' → w'.cell? ⟨w.heap.size, 3, none⟩ = some (.int .u64 (wd3 a)) := fun w' h => ((jA.alloc (.cells (W4 (wd0 N) (wd1 N) (wd2 N) (wd3 N)) 24)).below h.low (Nat.lt_succ_of_lt jA.lt)).cell 3
  have nS : ∀ w', SL (w10.heap.size + 1) (w10.alloc (.cells (W4 (wd0 N) (wd1 N) (wd2 N) (wd3 N)) 24)) w' → w'.cell? ⟨w3.heap.size, 0, none⟩ = some (.int .u64 S) := fun w' h => ((jS.alloc (.cells (W4 (wd0 N) (wd1 N) (wd2 N) (wd3 N)) 24)).below h.low (Nat.lt_succ_of_lt jS.lt)).cell 0
  have hfin : Below w.heap.size w (w10.alloc (.cells (W4 (wd0 N) (wd1 N) (wd2 N) (wd3 N)) 24)) := hw10.alloc hw10.size _
  have hfs : w.heap.size ≤ w10.heap.size + 1 := Nat.le_succ_of_le hw10.size
  clear hw10 jA jB jS jP jQ jU jV
  go_region_held3 (SL (w10.heap.size + 1) (w10.alloc (.cells (W4 (wd0 N) (wd1 N) (wd2 N) (wd3 N)) 24))) (first
      | exact g2
      | exact ⟨(Below.refl _ _).drew⟩)
    (first
      | (go_at_call 10; refine words_any.mono ?_; rintro e z1 ⟨rfl, y2⟩; have g2 : SL (w10.heap.size + 1) (w10.alloc (.cells (W4 (wd0 N) (wd1 N) (wd2 N) (wd3 N)) 24)) z1 := (by refine SL.call ?_ hlt y2; assumption))
      | (go_at_call 17; refine (c17.out _).mono ?_; rintro e z1 ⟨rfl, y2⟩; have g2 : SL (w10.heap.size + 1) (w10.alloc (.cells (W4 (wd0 N) (wd1 N) (wd2 N) (wd3 N)) 24)) z1 := (by refine SL.call ?_ hlt y2; assumption))
      | (go_at_call 11; refine (c11.out _).mono ?_; rintro e z1 ⟨rfl, y2⟩; have g2 : SL (w10.heap.size + 1) (w10.alloc (.cells (W4 (wd0 N) (wd1 N) (wd2 N) (wd3 N)) 24)) z1 := (by refine SL.call ?_ hlt y2; assumption))
      | (go_at_call 12; refine (c12.out _).mono ?_; rintro e z1 ⟨rfl, y2⟩; have g2 : SL (w10.heap.size + 1) (w10.alloc (.cells (W4 (wd0 N) (wd1 N) (wd2 N) (wd3 N)) 24)) z1 := (by refine SL.call ?_ hlt y2; assumption)))
  go_wp2
  go_ret
  exact ⟨rfl, hfin.trans (g2.low.mono hfs)⟩

set_option maxRecDepth 100000 in
set_option maxHeartbeats 4000000 in
theorem law3_clock {S : Int} {a b c pa pb cw aw N r : Nat} {w : World} (c13 : Hid (∀ w, Calls Try.prog 13 #[.agg #[.int .u64 S], .agg #[.int .u64 (wd0 a), .int .u64 (wd1 a), .int .u64 (wd2 a), .int .u64 (wd3 a)], .agg #[.int .u64 (wd0 b), .int .u64 (wd1 b), .int .u64 (wd2 b), .int .u64 (wd3 b)]] w fun e w' => e = .returned (.int .i64 0) ∧ Below w.heap.size w w'))
    (c11a : Hid (∀ w, Calls Try.prog 11 #[.agg #[.int .u64 S], .agg #[.int .u64 (wd0 a), .int .u64 (wd1 a), .int .u64 (wd2 a), .int .u64 (wd3 a)], .agg #[.int .u64 (wd0 c), .int .u64 (wd1 c), .int .u64 (wd2 c), .int .u64 (wd3 c)]] w fun e w' => e = .returned (.agg #[.int .u64 (wd0 pa), .int .u64 (wd1 pa), .int .u64 (wd2 pa), .int .u64 (wd3 pa)]) ∧ Below w.heap.size w w'))
    (c11b : Hid (∀ w, Calls Try.prog 11 #[.agg #[.int .u64 S], .agg #[.int .u64 (wd0 b), .int .u64 (wd1 b), .int .u64 (wd2 b), .int .u64 (wd3 b)], .agg #[.int .u64 (wd0 c), .int .u64 (wd1 c), .int .u64 (wd2 c), .int .u64 (wd3 c)]] w fun e w' => e = .returned (.agg #[.int .u64 (wd0 pb), .int .u64 (wd1 pb), .int .u64 (wd2 pb), .int .u64 (wd3 pb)]) ∧ Below w.heap.size w w'))
    (c13t : Hid (∀ w, Calls Try.prog 13 #[.agg #[.int .u64 S], .agg #[.int .u64 (wd0 pa), .int .u64 (wd1 pa), .int .u64 (wd2 pa), .int .u64 (wd3 pa)], .agg #[.int .u64 (wd0 pb), .int .u64 (wd1 pb), .int .u64 (wd2 pb), .int .u64 (wd3 pb)]] w fun e w' => e = .returned (.int .i64 0) ∧ Below w.heap.size w w'))
    (c9 : Hid (∀ w, Calls Try.prog 9 #[.agg #[.int .u64 S], .agg #[.int .u64 (wd0 a), .int .u64 (wd1 a), .int .u64 (wd2 a), .int .u64 (wd3 a)], .agg #[.int .u64 (wd0 b), .int .u64 (wd1 b), .int .u64 (wd2 b), .int .u64 (wd3 b)]] w fun e w' => e = .returned (.tuple #[.agg #[.int .u64 (wd0 cw), .int .u64 (wd1 cw), .int .u64 (wd2 cw), .int .u64 (wd3 cw)], .agg #[.int .u64 (wd0 aw), .int .u64 (wd1 aw), .int .u64 (wd2 aw), .int .u64 (wd3 aw)]]) ∧ Below w.heap.size w w'))
    (c15 : Hid (∀ w, Calls Try.prog 15 #[.int .i64 (160 - S)] w fun e w' => e = .returned (.agg #[.int .u64 (wd0 N), .int .u64 (wd1 N), .int .u64 (wd2 N), .int .u64 (wd3 N)]) ∧ Below w.heap.size w w'))
    (hr : Big r)
    (c17 : Hid (∀ w, Calls Try.prog 17 #[.agg #[.int .u64 (wd0 N), .int .u64 (wd1 N), .int .u64 (wd2 N), .int .u64 (wd3 N)], .agg #[.int .u64 (wd0 cw), .int .u64 (wd1 cw), .int .u64 (wd2 cw), .int .u64 (wd3 cw)]] w fun e w' => e = .returned (.bool false) ∧ Below w.heap.size w w'))
    (c11 : Hid (∀ w, Calls Try.prog 11 #[.agg #[.int .u64 S], .agg #[.int .u64 (wd0 a), .int .u64 (wd1 a), .int .u64 (wd2 a), .int .u64 (wd3 a)], .agg #[.int .u64 (wd0 cw), .int .u64 (wd1 cw), .int .u64 (wd2 cw), .int .u64 (wd3 cw)]] w fun e w' => e = .returned (.agg #[.int .u64 (wd0 r), .int .u64 (wd1 r), .int .u64 (wd2 r), .int .u64 (wd3 r)]) ∧ Below w.heap.size w w'))
    (c12 : Hid (∀ w, Calls Try.prog 12 #[.agg #[.int .u64 (wd0 b), .int .u64 (wd1 b), .int .u64 (wd2 b), .int .u64 (wd3 b)], .int .i64 (160 - S)] w fun e w' => e = .returned (.agg #[.int .u64 (wd0 r), .int .u64 (wd1 r), .int .u64 (wd2 r), .int .u64 (wd3 r)]) ∧ Below w.heap.size w w'))
    (h0 : 0 ≤ S) (h1 : S ≤ 159) (ha : Big a) (hb : Big b) (da : decide (lowN a 160 = a) = true) (db : decide (lowN b 160 = b) = true) :
    Calls Try.prog 5 #[.int .u64 S, .agg #[.int .u64 (wd0 a), .int .u64 (wd1 a), .int .u64 (wd2 a), .int .u64 (wd3 a)], .agg #[.int .u64 (wd0 b), .int .u64 (wd1 b), .int .u64 (wd2 b), .int .u64 (wd3 b)], .agg #[.int .u64 (wd0 c), .int .u64 (wd1 c), .int .u64 (wd2 c), .int .u64 (wd3 c)]] w fun e w' => e = .returned (.bool true) ∧ Below w.heap.size w w' := by
  have t1 : True := trivial
  have t2 : True := trivial
  have t3 : True := trivial
  have t4 : True := trivial
  have t5 : True := trivial
  have er := eqlSelf hr
  go_enter Try.func5, Try.ntmps5
  go_wp2_with (first
    | (go_at_call 6; have _u := t1; refine (onRing_any h160 (by decide) (by decide) ha).mono ?_; rintro e w1 ⟨rfl, hb1⟩; clear t1; have hw1 := below_call (abc_below w a b c) hb1; have kA := (abc_a w a b c).call hb1; have kB := (abc_b w a b c).call hb1; have kC := (abc_c w a b c).call hb1; clear hb1; obtain ⟨cb0, cb1, cb2, cb3⟩ := kB.c4; have cbl := kB.lt)
    | (go_at_call 6; have _u := t2; refine (onRing_any h160 (by decide) (by decide) hb).mono ?_; rintro e w2 ⟨rfl, hb2⟩; clear t2 cb0 cb1 cb2 cb3 cbl; have hw2 := below_call hw1 hb2; have jA := kA.call hb2; have jB := kB.call hb2; have jC := kC.call hb2; clear hb2 kA kB kC hw1)
    | (go_at_call 7; refine space_any.mono ?_; rintro e w3 ⟨rfl, hb3⟩; have hw3 := below_call hw2 hb3; have kA := jA.call hb3; have kB := jB.call hb3; have kC := jC.call hb3; clear hb3 jA jB jC hw2; obtain ⟨ca0, ca1, ca2, ca3⟩ := kA.c4; have cal := kA.lt)
    | (go_at_call 8; have _u := t3; refine (id_any (v := a)).mono ?_; rintro e w4 ⟨rfl, hb4⟩; clear t3 ca0 ca1 ca2 ca3 cal; have hw4 := below_call (hw3.alloc hw3.size (.cells #[.int .u64 S] 27)) hb4; have jA := (kA.alloc (.cells #[.int .u64 S] 27)).call hb4; have jB := (kB.alloc (.cells #[.int .u64 S] 27)).call hb4; have jC := (kC.alloc (.cells #[.int .u64 S] 27)).call hb4; have jS := (Blk.new w3 27 #[.int .u64 S]).call hb4; clear hb4 kA kB kC hw3; obtain ⟨cb0, cb1, cb2, cb3⟩ := jB.c4; have cbl := jB.lt)
    | (go_at_call 8; have _u := t4; refine (id_any (v := b)).mono ?_; rintro e w5 ⟨rfl, hb5⟩; clear t4 cb0 cb1 cb2 cb3 cbl; have hw5 := below_call (hw4.alloc hw4.size (.cells (W4 (wd0 a) (wd1 a) (wd2 a) (wd3 a)) 31)) hb5; have kA := (jA.alloc (.cells (W4 (wd0 a) (wd1 a) (wd2 a) (wd3 a)) 31)).call hb5; have kB := (jB.alloc (.cells (W4 (wd0 a) (wd1 a) (wd2 a) (wd3 a)) 31)).call hb5; have kC := (jC.alloc (.cells (W4 (wd0 a) (wd1 a) (wd2 a) (wd3 a)) 31)).call hb5; have kS := (jS.alloc (.cells (W4 (wd0 a) (wd1 a) (wd2 a) (wd3 a)) 31)).call hb5; have kP := (Blk.new w4 31 (W4 (wd0 a) (wd1 a) (wd2 a) (wd3 a))).call hb5; clear hb5 jA jB jC jS hw4; obtain ⟨cc0, cc1, cc2, cc3⟩ := kC.c4; have ccl := kC.lt)
    | (go_at_call 8; have _u := t5; refine (id_any (v := c)).mono ?_; rintro e w6 ⟨rfl, hb6⟩; clear t5 cc0 cc1 cc2 cc3 ccl; have hw6 := below_call (hw5.alloc hw5.size (.cells (W4 (wd0 b) (wd1 b) (wd2 b) (wd3 b)) 31)) hb6; have jA := (kA.alloc (.cells (W4 (wd0 b) (wd1 b) (wd2 b) (wd3 b)) 31)).call hb6; have jB := (kB.alloc (.cells (W4 (wd0 b) (wd1 b) (wd2 b) (wd3 b)) 31)).call hb6; have jC := (kC.alloc (.cells (W4 (wd0 b) (wd1 b) (wd2 b) (wd3 b)) 31)).call hb6; have jS := (kS.alloc (.cells (W4 (wd0 b) (wd1 b) (wd2 b) (wd3 b)) 31)).call hb6; have jP := (kP.alloc (.cells (W4 (wd0 b) (wd1 b) (wd2 b) (wd3 b)) 31)).call hb6; have jQ := (Blk.new w5 31 (W4 (wd0 b) (wd1 b) (wd2 b) (wd3 b))).call hb6; clear hb6 kA kB kC kS kP hw5; have cs := jS.cell 0; have csl := jS.lt; simp at cs; obtain ⟨cp0, cp1, cp2, cp3⟩ := jP.c4; have cpl := jP.lt; obtain ⟨cq0, cq1, cq2, cq3⟩ := jQ.c4; have cql := jQ.lt)
    | (go_at_call 13; refine (c13.out _).mono ?_; rintro e w7 ⟨rfl, hb7⟩; clear cs csl cp0 cp1 cp2 cp3 cpl cq0 cq1 cq2 cq3 cql; have hw7 := below_call (hw6.alloc hw6.size (.cells (W4 (wd0 c) (wd1 c) (wd2 c) (wd3 c)) 31)) hb7; have kA := (jA.alloc (.cells (W4 (wd0 c) (wd1 c) (wd2 c) (wd3 c)) 31)).call hb7; have kB := (jB.alloc (.cells (W4 (wd0 c) (wd1 c) (wd2 c) (wd3 c)) 31)).call hb7; have kS := (jS.alloc (.cells (W4 (wd0 c) (wd1 c) (wd2 c) (wd3 c)) 31)).call hb7; have kP := (jP.alloc (.cells (W4 (wd0 c) (wd1 c) (wd2 c) (wd3 c)) 31)).call hb7; have kQ := (jQ.alloc (.cells (W4 (wd0 c) (wd1 c) (wd2 c) (wd3 c)) 31)).call hb7; have kR := (Blk.new w6 31 (W4 (wd0 c) (wd1 c) (wd2 c) (wd3 c))).call hb7; clear hb7 jA jB jC jS jP jQ hw6))
  have nP0 : ∀ w', SL w7.heap.size w7 w' → w'.cell? ⟨w4.heap.size, 0, none⟩ = some (.int .u64 (wd0 a)) := fun w' h => (kP.below h.low kP.lt).cell 0
  have nP1 : ∀ w', SL w7.heap.size w7 w' → w'.cell? ⟨w4.heap.size, 1, none⟩ = some (.int .u64 (wd1 a)) := fun w' h => (kP.below h.low kP.lt).cell 1
  have nP2 : ∀ w', SL w7.heap.size w7 w' → w'.cell? ⟨w4.heap.size, 2, none⟩ = some (.int .u64 (wd2 a)) := fun w' h => (kP.below h.low kP.lt).cell 2
  have nP3 : ∀ w', SL w7.heap.size w7 w' → w'.cell? ⟨w4.heap.size, 3, none⟩ = some (.int .u64 (wd3 a)) := fun w' h => (kP.below h.low kP.lt).cell 3
  have nQ0 : ∀ w', SL w7.heap.size w7 w' → w'.cell? ⟨w5.heap.size, 0, none⟩ = some (.int .u64 (wd0 b)) := fun w' h => (kQ.below h.low kQ.lt).cell 0
  have nQ1 : ∀ w', SL w7.heap.size w7 w' → w'.cell? ⟨w5.heap.size, 1, none⟩ = some (.int .u64 (wd1 b)) := fun w' h => (kQ.below h.low kQ.lt).cell 1
  have nQ2 : ∀ w', SL w7.heap.size w7 w' → w'.cell? ⟨w5.heap.size, 2, none⟩ = some (.int .u64 (wd2 b)) := fun w' h => (kQ.below h.low kQ.lt).cell 2
  have nQ3 : ∀ w', SL w7.heap.size w7 w' → w'.cell? ⟨w5.heap.size, 3, none⟩ = some (.int .u64 (wd3 b)) := fun w' h => (kQ.below h.low kQ.lt).cell 3
  have nR0 : ∀ w', SL w7.heap.size w7 w' → w'.cell? ⟨w6.heap.size, 0, none⟩ = some (.int .u64 (wd0 c)) := fun w' h => (kR.below h.low kR.lt).cell 0
  have nR1 : ∀ w', SL w7.heap.size w7 w' → w'.cell? ⟨w6.heap.size, 1, none⟩ = some (.int .u64 (wd1 c)) := fun w' h => (kR.below h.low kR.lt).cell 1
  have nR2 : ∀ w', SL w7.heap.size w7 w' → w'.cell? ⟨w6.heap.size, 2, none⟩ = some (.int .u64 (wd2 c)) := fun w' h => (kR.below h.low kR.lt).cell 2
  have nR3 : ∀ w', SL w7.heap.size w7 w' → w'.cell? ⟨w6.heap.size, 3, none⟩ = some (.int .u64 (wd3 c)) := fun w' h => (kR.below h.low kR.lt).cell 3
  have nS : ∀ w', SL w7.heap.size w7 w' → w'.cell? ⟨w3.heap.size, 0, none⟩ = some (.int .u64 S) := fun w' h => (kS.below h.low kS.lt).cell 0
  have hlt7 : w7.heap.size ≤ w7.heap.size := Nat.le_refl _
  go_region_held3 (SL w7.heap.size w7) (first
      | exact g1
      | exact ⟨(Below.refl _ _).drew⟩)
    (first
      | (go_at_call_of 11 (wd0 a); refine (c11a.out _).mono ?_; rintro e v1 ⟨rfl, y1⟩; have g1 : SL w7.heap.size w7 v1 := (by refine SL.call ?_ hlt7 y1; assumption))
      | (go_at_call 11; refine (c11b.out _).mono ?_; rintro e v1 ⟨rfl, y1⟩; have g1 : SL w7.heap.size w7 v1 := (by refine SL.call ?_ hlt7 y1; assumption))
      | (go_at_call 13; refine (c13t.out _).mono ?_; rintro e v1 ⟨rfl, y1⟩; have g1 : SL w7.heap.size w7 v1 := (by refine SL.call ?_ hlt7 y1; assumption)))
  clear nP0 nP1 nP2 nP3 nQ0 nQ1 nQ2 nQ3 nR0 nR1 nR2 nR3 nS
  have hw8 := below_call hw7 g1.low
  have jA := kA.call g1.low
  have jB := kB.call g1.low
  have jS := kS.call g1.low
  have jP := kP.call g1.low
  have jQ := kQ.call g1.low
  clear kA kB kS kP kQ kR hw7
  have cs := jS.cell 0
  simp at cs
  obtain ⟨cp0, cp1, cp2, cp3⟩ := jP.c4
  obtain ⟨cq0, cq1, cq2, cq3⟩ := jQ.c4
  go_wp2_with (first
    | (go_at_call 9; refine (c9.out _).mono ?_; rintro e w9 ⟨rfl, hb9⟩; clear cs cp0 cp1 cp2 cp3 cq0 cq1 cq2 cq3; have hw9 := below_call hw8 hb9; have kA := jA.call hb9; have kB := jB.call hb9; have kS := jS.call hb9; have kP := jP.call hb9; have kQ := jQ.call hb9; clear hb9 jA jB jS jP jQ hw8)
    | (go_at_call 15; refine (c15.out _).mono ?_; rintro e w10 ⟨rfl, hb10⟩; have hw10 := below_call ((hw9.alloc hw9.size (.cells (W4 (wd0 cw) (wd1 cw) (wd2 cw) (wd3 cw)) 31)).alloc (by simp; have h := hw9.size; omega) (.cells (W4 (wd0 aw) (wd1 aw) (wd2 aw) (wd3 aw)) 31)) hb10; have jA := ((kA.alloc (.cells (W4 (wd0 cw) (wd1 cw) (wd2 cw) (wd3 cw)) 31)).alloc (.cells (W4 (wd0 aw) (wd1 aw) (wd2 aw) (wd3 aw)) 31)).call hb10; have jB := ((kB.alloc (.cells (W4 (wd0 cw) (wd1 cw) (wd2 cw) (wd3 cw)) 31)).alloc (.cells (W4 (wd0 aw) (wd1 aw) (wd2 aw) (wd3 aw)) 31)).call hb10; have jS := ((kS.alloc (.cells (W4 (wd0 cw) (wd1 cw) (wd2 cw) (wd3 cw)) 31)).alloc (.cells (W4 (wd0 aw) (wd1 aw) (wd2 aw) (wd3 aw)) 31)).call hb10; have jP := ((kP.alloc (.cells (W4 (wd0 cw) (wd1 cw) (wd2 cw) (wd3 cw)) 31)).alloc (.cells (W4 (wd0 aw) (wd1 aw) (wd2 aw) (wd3 aw)) 31)).call hb10; have jQ := ((kQ.alloc (.cells (W4 (wd0 cw) (wd1 cw) (wd2 cw) (wd3 cw)) 31)).alloc (.cells (W4 (wd0 aw) (wd1 aw) (wd2 aw) (wd3 aw)) 31)).call hb10; have jU := ((Blk.new w9 31 (W4 (wd0 cw) (wd1 cw) (wd2 cw) (wd3 cw))).alloc (.cells (W4 (wd0 aw) (wd1 aw) (wd2 aw) (wd3 aw)) 31)).call hb10; have jV := (Blk.new2 w9 (.cells (W4 (wd0 cw) (wd1 cw) (wd2 cw) (wd3 cw)) 31) 31 (W4 (wd0 aw) (wd1 aw) (wd2 aw) (wd3 aw))).call hb10; clear hb10 kA kB kS kP kQ hw9))
  have hlt : w10.heap.size + 1 ≤ (w10.alloc (.cells (W4 (wd0 N) (wd1 N) (wd2 N) (wd3 N)) 24)).heap.size := by simp
  have nH0 : ∀ w', SL (w10.heap.size + 1) (w10.alloc (.cells (W4 (wd0 N) (wd1 N) (wd2 N) (wd3 N)) 24)) w' → w'.cell? ⟨w10.heap.size, 0, none⟩ = some (.int .u64 (wd0 N)) := fun w' h => ((Blk.new w10 24 (W4 (wd0 N) (wd1 N) (wd2 N) (wd3 N))).below h.low (Nat.lt_succ_self _)).cell 0
  have nH1 : ∀ w', SL (w10.heap.size + 1) (w10.alloc (.cells (W4 (wd0 N) (wd1 N) (wd2 N) (wd3 N)) 24)) w' → w'.cell? ⟨w10.heap.size, 1, none⟩ = some (.int .u64 (wd1 N)) := fun w' h => ((Blk.new w10 24 (W4 (wd0 N) (wd1 N) (wd2 N) (wd3 N))).below h.low (Nat.lt_succ_self _)).cell 1
  have nH2 : ∀ w', SL (w10.heap.size + 1) (w10.alloc (.cells (W4 (wd0 N) (wd1 N) (wd2 N) (wd3 N)) 24)) w' → w'.cell? ⟨w10.heap.size, 2, none⟩ = some (.int .u64 (wd2 N)) := fun w' h => ((Blk.new w10 24 (W4 (wd0 N) (wd1 N) (wd2 N) (wd3 N))).below h.low (Nat.lt_succ_self _)).cell 2
  have nH3 : ∀ w', SL (w10.heap.size + 1) (w10.alloc (.cells (W4 (wd0 N) (wd1 N) (wd2 N) (wd3 N)) 24)) w' → w'.cell? ⟨w10.heap.size, 3, none⟩ = some (.int .u64 (wd3 N)) := fun w' h => ((Blk.new w10 24 (W4 (wd0 N) (wd1 N) (wd2 N) (wd3 N))).below h.low (Nat.lt_succ_self _)).cell 3
  have nU0 : ∀ w', SL (w10.heap.size + 1) (w10.alloc (.cells (W4 (wd0 N) (wd1 N) (wd2 N) (wd3 N)) 24)) w' → w'.cell? ⟨w9.heap.size, 0, none⟩ = some (.int .u64 (wd0 cw)) := fun w' h => ((jU.alloc (.cells (W4 (wd0 N) (wd1 N) (wd2 N) (wd3 N)) 24)).below h.low (Nat.lt_succ_of_lt jU.lt)).cell 0
  have nU1 : ∀ w', SL (w10.heap.size + 1) (w10.alloc (.cells (W4 (wd0 N) (wd1 N) (wd2 N) (wd3 N)) 24)) w' → w'.cell? ⟨w9.heap.size, 1, none⟩ = some (.int .u64 (wd1 cw)) := fun w' h => ((jU.alloc (.cells (W4 (wd0 N) (wd1 N) (wd2 N) (wd3 N)) 24)).below h.low (Nat.lt_succ_of_lt jU.lt)).cell 1
  have nU2 : ∀ w', SL (w10.heap.size + 1) (w10.alloc (.cells (W4 (wd0 N) (wd1 N) (wd2 N) (wd3 N)) 24)) w' → w'.cell? ⟨w9.heap.size, 2, none⟩ = some (.int .u64 (wd2 cw)) := fun w' h => ((jU.alloc (.cells (W4 (wd0 N) (wd1 N) (wd2 N) (wd3 N)) 24)).below h.low (Nat.lt_succ_of_lt jU.lt)).cell 2
  have nU3 : ∀ w', SL (w10.heap.size + 1) (w10.alloc (.cells (W4 (wd0 N) (wd1 N) (wd2 N) (wd3 N)) 24)) w' → w'.cell? ⟨w9.heap.size, 3, none⟩ = some (.int .u64 (wd3 cw)) := fun w' h => ((jU.alloc (.cells (W4 (wd0 N) (wd1 N) (wd2 N) (wd3 N)) 24)).below h.low (Nat.lt_succ_of_lt jU.lt)).cell 3
  have nP0 : ∀ w', SL (w10.heap.size + 1) (w10.alloc (.cells (W4 (wd0 N) (wd1 N) (wd2 N) (wd3 N)) 24)) w' → w'.cell? ⟨w4.heap.size, 0, none⟩ = some (.int .u64 (wd0 a)) := fun w' h => ((jP.alloc (.cells (W4 (wd0 N) (wd1 N) (wd2 N) (wd3 N)) 24)).below h.low (Nat.lt_succ_of_lt jP.lt)).cell 0
  have nP1 : ∀ w', SL (w10.heap.size + 1) (w10.alloc (.cells (W4 (wd0 N) (wd1 N) (wd2 N) (wd3 N)) 24)) w' → w'.cell? ⟨w4.heap.size, 1, none⟩ = some (.int .u64 (wd1 a)) := fun w' h => ((jP.alloc (.cells (W4 (wd0 N) (wd1 N) (wd2 N) (wd3 N)) 24)).below h.low (Nat.lt_succ_of_lt jP.lt)).cell 1
  have nP2 : ∀ w', SL (w10.heap.size + 1) (w10.alloc (.cells (W4 (wd0 N) (wd1 N) (wd2 N) (wd3 N)) 24)) w' → w'.cell? ⟨w4.heap.size, 2, none⟩ = some (.int .u64 (wd2 a)) := fun w' h => ((jP.alloc (.cells (W4 (wd0 N) (wd1 N) (wd2 N) (wd3 N)) 24)).below h.low (Nat.lt_succ_of_lt jP.lt)).cell 2
  have nP3 : ∀ w', SL (w10.heap.size + 1) (w10.alloc (.cells (W4 (wd0 N) (wd1 N) (wd2 N) (wd3 N)) 24)) w' → w'.cell? ⟨w4.heap.size, 3, none⟩ = some (.int .u64 (wd3 a)) := fun w' h => ((jP.alloc (.cells (W4 (wd0 N) (wd1 N) (wd2 N) (wd3 N)) 24)).below h.low (Nat.lt_succ_of_lt jP.lt)).cell 3
  have nB0 : ∀ w', SL (w10.heap.size + 1) (w10.alloc (.cells (W4 (wd0 N) (wd1 N) (wd2 N) (wd3 N)) 24)) w' → w'.cell? ⟨w.heap.size + 1, 0, none⟩ = some (.int .u64 (wd0 b)) := fun w' h => ((jB.alloc (.cells (W4 (wd0 N) (wd1 N) (wd2 N) (wd3 N)) 24)).below h.low (Nat.lt_succ_of_lt jB.lt)).cell 0
  have nB1 : ∀ w', SL (w10.heap.size + 1) (w10.alloc (.cells (W4 (wd0 N) (wd1 N) (wd2 N) (wd3 N)) 24)) w' → w'.cell? ⟨w.heap.size + 1, 1, none⟩ = some (.int .u64 (wd1 b)) := fun w' h => ((jB.alloc (.cells (W4 (wd0 N) (wd1 N) (wd2 N) (wd3 N)) 24)).below h.low (Nat.lt_succ_of_lt jB.lt)).cell 1
  have nB2 : ∀ w', SL (w10.heap.size + 1) (w10.alloc (.cells (W4 (wd0 N) (wd1 N) (wd2 N) (wd3 N)) 24)) w' → w'.cell? ⟨w.heap.size + 1, 2, none⟩ = some (.int .u64 (wd2 b)) := fun w' h => ((jB.alloc (.cells (W4 (wd0 N) (wd1 N) (wd2 N) (wd3 N)) 24)).below h.low (Nat.lt_succ_of_lt jB.lt)).cell 2
  have nB3 : ∀ w', SL (w10.heap.size + 1) (w10.alloc (.cells (W4 (wd0 N) (wd1 N) (wd2 N) (wd3 N)) 24)) w' → w'.cell? ⟨w.heap.size + 1, 3, none⟩ = some (.int .u64 (wd3 b)) := fun w' h => ((jB.alloc (.cells (W4 (wd0 N) (wd1 N) (wd2 N) (wd3 N)) 24)).below h.low (Nat.lt_succ_of_lt jB.lt)).cell 3
  have nS : ∀ w', SL (w10.heap.size + 1) (w10.alloc (.cells (W4 (wd0 N) (wd1 N) (wd2 N) (wd3 N)) 24)) w' → w'.cell? ⟨w3.heap.size, 0, none⟩ = some (.int .u64 S) := fun w' h => ((jS.alloc (.cells (W4 (wd0 N) (wd1 N) (wd2 N) (wd3 N)) 24)).below h.low (Nat.lt_succ_of_lt jS.lt)).cell 0
  have hfin : Below w.heap.size w (w10.alloc (.cells (W4 (wd0 N) (wd1 N) (wd2 N) (wd3 N)) 24)) := hw10.alloc hw10.size _
  have hfs : w.heap.size ≤ w10.heap.size + 1 := Nat.le_succ_of_le hw10.size
  clear hw10 jA jB jS jP jQ jU jV
  go_region_held3 (SL (w10.heap.size + 1) (w10.alloc (.cells (W4 (wd0 N) (wd1 N) (wd2 N) (wd3 N)) 24))) (first
      | exact g2
      | exact ⟨(Below.refl _ _).drew⟩)
    (first
      | (go_at_call 10; refine words_any.mono ?_; rintro e z1 ⟨rfl, y2⟩; have g2 : SL (w10.heap.size + 1) (w10.alloc (.cells (W4 (wd0 N) (wd1 N) (wd2 N) (wd3 N)) 24)) z1 := (by refine SL.call ?_ hlt y2; assumption))
      | (go_at_call 17; refine (c17.out _).mono ?_; rintro e z1 ⟨rfl, y2⟩; have g2 : SL (w10.heap.size + 1) (w10.alloc (.cells (W4 (wd0 N) (wd1 N) (wd2 N) (wd3 N)) 24)) z1 := (by refine SL.call ?_ hlt y2; assumption))
      | (go_at_call 11; refine (c11.out _).mono ?_; rintro e z1 ⟨rfl, y2⟩; have g2 : SL (w10.heap.size + 1) (w10.alloc (.cells (W4 (wd0 N) (wd1 N) (wd2 N) (wd3 N)) 24)) z1 := (by refine SL.call ?_ hlt y2; assumption))
      | (go_at_call 12; refine (c12.out _).mono ?_; rintro e z1 ⟨rfl, y2⟩; have g2 : SL (w10.heap.size + 1) (w10.alloc (.cells (W4 (wd0 N) (wd1 N) (wd2 N) (wd3 N)) 24)) z1 := (by refine SL.call ?_ hlt y2; assumption)))
  go_wp2
  go_ret
  exact ⟨rfl, hfin.trans (g2.low.mono hfs)⟩

end Go.Proofs.Qxb6614289a
