/-
  Seat b6614289a: the second law's walk.
-/
import Derived.Test.Qxb6614289aX6
namespace Go.Proofs.Qxb6614289a
open Go.RowKit

theorem big_0 : Big 0 := by unfold Big; decide
theorem eqlZero {v : Nat} (hv : Big v) (w : World) : (binOp .eql 24 (.agg #[.int .u64 (wd0 v), .int .u64 (wd1 v), .int .u64 (wd2 v), .int .u64 (wd3 v)]) (.agg #[.int .u64 0, .int .u64 0, .int .u64 0, .int .u64 0])).run Try.prog w = .ok (.bool (decide (v = 0))) w := by
  have h := eqlN hv big_0 w
  have e0 : wd0 0 = 0 := by decide
  have e1 : wd1 0 = 0 := by decide
  have e2 : wd2 0 = 0 := by decide
  have e3 : wd3 0 = 0 := by decide
  rw [e0, e1, e2, e3] at h
  exact h


set_option maxRecDepth 100000 in
set_option maxHeartbeats 2000000 in
theorem law2_zero {S X Y : Int} {a b d : Nat} {w : World} (c13a : Hid (∀ w, Calls Try.prog 13 #[.agg #[.int .u64 S], .agg #[.int .u64 (wd0 a), .int .u64 (wd1 a), .int .u64 (wd2 a), .int .u64 (wd3 a)], .agg #[.int .u64 (wd0 b), .int .u64 (wd1 b), .int .u64 (wd2 b), .int .u64 (wd3 b)]] w fun e w' => e = .returned (.int .i64 X) ∧ Below w.heap.size w w'))
    (c13b : Hid (∀ w, Calls Try.prog 13 #[.agg #[.int .u64 S], .agg #[.int .u64 (wd0 b), .int .u64 (wd1 b), .int .u64 (wd2 b), .int .u64 (wd3 b)], .agg #[.int .u64 (wd0 a), .int .u64 (wd1 a), .int .u64 (wd2 a), .int .u64 (wd3 a)]] w fun e w' => e = .returned (.int .i64 Y) ∧ Below w.heap.size w w'))
    (c12 : Hid (∀ w, Calls Try.prog 12 #[.agg #[.int .u64 (wd0 (subN b a)), .int .u64 (wd1 (subN b a)), .int .u64 (wd2 (subN b a)), .int .u64 (wd3 (subN b a))], .int .i64 (160 - S)] w fun e w' => e = .returned (.agg #[.int .u64 (wd0 d), .int .u64 (wd1 d), .int .u64 (wd2 d), .int .u64 (wd3 d)]) ∧ Below w.heap.size w w'))
    (c16a : Hid (∀ w, Calls Try.prog 16 #[.agg #[.int .u64 (wd0 a), .int .u64 (wd1 a), .int .u64 (wd2 a), .int .u64 (wd3 a)], .agg #[.int .u64 (wd0 b), .int .u64 (wd1 b), .int .u64 (wd2 b), .int .u64 (wd3 b)], .int .i64 (160 - S)] w fun e w' => e = .returned (.int .i64 X) ∧ Below w.heap.size w w'))
    (c16b : Hid (∀ w, Calls Try.prog 16 #[.agg #[.int .u64 (wd0 b), .int .u64 (wd1 b), .int .u64 (wd2 b), .int .u64 (wd3 b)], .agg #[.int .u64 (wd0 a), .int .u64 (wd1 a), .int .u64 (wd2 a), .int .u64 (wd3 a)], .int .i64 (160 - S)] w fun e w' => e = .returned (.int .i64 Y) ∧ Below w.heap.size w w'))
    (hd : Big d) (h0 : 0 ≤ S) (h1 : S ≤ 159) (ha : Big a) (hb : Big b) (da : decide (lowN a 160 = a) = true) (db : decide (lowN b 160 = b) = true)
    (dz : decide (d = 0) = true) (hdir : (X == Y) = true) :
    Calls Try.prog 4 #[.int .u64 S, .agg #[.int .u64 (wd0 a), .int .u64 (wd1 a), .int .u64 (wd2 a), .int .u64 (wd3 a)], .agg #[.int .u64 (wd0 b), .int .u64 (wd1 b), .int .u64 (wd2 b), .int .u64 (wd3 b)]] w fun e w' => e = .returned (.bool true) ∧ Below w.heap.size w w' := by
  have t1 : True := trivial
  have t2 : True := trivial
  have ez : ∀ w, (binOp .eql 24 (.agg #[.int .u64 (wd0 d), .int .u64 (wd1 d), .int .u64 (wd2 d), .int .u64 (wd3 d)]) (.agg #[.int .u64 0, .int .u64 0, .int .u64 0, .int .u64 0])).run Try.prog w = .ok (.bool true) w := fun w => by rw [eqlZero hd, dz]
  go_enter Try.func4, Try.ntmps4
  go_wp2_with (first
    | (go_at_call 6; have _u := t1; refine (onRing_any h160 (by decide) (by decide) ha).mono ?_; rintro e w1 ⟨rfl, hb1⟩; clear t1; have hw1 := below_call (ab_below w a b) hb1; have kA := (ab_a w a b).call hb1; have kB := (ab_b w a b).call hb1; clear hb1; obtain ⟨cb0, cb1, cb2, cb3⟩ := kB.c4; have cbl := kB.lt)
    | (go_at_call 6; have _u := t2; refine (onRing_any h160 (by decide) (by decide) hb).mono ?_; rintro e w2 ⟨rfl, hb2⟩; clear t2 cb0 cb1 cb2 cb3 cbl; have hw2 := below_call hw1 hb2; have jA := kA.call hb2; have jB := kB.call hb2; clear hb2 kA kB hw1)
    | (go_at_call 7; refine space_any.mono ?_; rintro e w3 ⟨rfl, hb3⟩; have hw3 := below_call hw2 hb3; have kA := jA.call hb3; have kB := jB.call hb3; clear hb3 jA jB hw2))
  have hlt : w3.heap.size + 1 ≤ (w3.alloc (.cells #[.int .u64 S] 27)).heap.size := by simp
  have nA : ∀ w', SL (w3.heap.size + 1) (w3.alloc (.cells #[.int .u64 S] 27)) w' → Blk w' w.heap.size 24 (W4 (wd0 a) (wd1 a) (wd2 a) (wd3 a)) := fun w' h => (kA.alloc (.cells #[.int .u64 S] 27)).below h.low (Nat.lt_succ_of_lt kA.lt)
  have nB : ∀ w', SL (w3.heap.size + 1) (w3.alloc (.cells #[.int .u64 S] 27)) w' → Blk w' (w.heap.size + 1) 24 (W4 (wd0 b) (wd1 b) (wd2 b) (wd3 b)) := fun w' h => (kB.alloc (.cells #[.int .u64 S] 27)).below h.low (Nat.lt_succ_of_lt kB.lt)
  have nS : ∀ w', SL (w3.heap.size + 1) (w3.alloc (.cells #[.int .u64 S] 27)) w' → w'.cell? ⟨w3.heap.size, 0, none⟩ = some (.int .u64 S) := fun w' h => ((Blk.new w3 27 #[.int .u64 S]).below h.low (Nat.lt_succ_self _)).cell 0
  have nA0 : ∀ w', SL (w3.heap.size + 1) (w3.alloc (.cells #[.int .u64 S] 27)) w' → w'.cell? ⟨w.heap.size, 0, none⟩ = some (.int .u64 (wd0 a)) := fun w' h => (nA w' h).cell 0
  have nA1 : ∀ w', SL (w3.heap.size + 1) (w3.alloc (.cells #[.int .u64 S] 27)) w' → w'.cell? ⟨w.heap.size, 1, none⟩ = some (.int .u64 (wd1 a)) := fun w' h => (nA w' h).cell 1
  have nA2 : ∀ w', SL (w3.heap.size + 1) (w3.alloc (.cells #[.int .u64 S] 27)) w' → w'.cell? ⟨w.heap.size, 2, none⟩ = some (.int .u64 (wd2 a)) := fun w' h => (nA w' h).cell 2
  have nA3 : ∀ w', SL (w3.heap.size + 1) (w3.alloc (.cells #[.int .u64 S] 27)) w' → w'.cell? ⟨w.heap.size, 3, none⟩ = some (.int .u64 (wd3 a)) := fun w' h => (nA w' h).cell 3
  have nB0 : ∀ w', SL (w3.heap.size + 1) (w3.alloc (.cells #[.int .u64 S] 27)) w' → w'.cell? ⟨w.heap.size + 1, 0, none⟩ = some (.int .u64 (wd0 b)) := fun w' h => (nB w' h).cell 0
  have nB1 : ∀ w', SL (w3.heap.size + 1) (w3.alloc (.cells #[.int .u64 S] 27)) w' → w'.cell? ⟨w.heap.size + 1, 1, none⟩ = some (.int .u64 (wd1 b)) := fun w' h => (nB w' h).cell 1
  have nB2 : ∀ w', SL (w3.heap.size + 1) (w3.alloc (.cells #[.int .u64 S] 27)) w' → w'.cell? ⟨w.heap.size + 1, 2, none⟩ = some (.int .u64 (wd2 b)) := fun w' h => (nB w' h).cell 2
  have nB3 : ∀ w', SL (w3.heap.size + 1) (w3.alloc (.cells #[.int .u64 S] 27)) w' → w'.cell? ⟨w.heap.size + 1, 3, none⟩ = some (.int .u64 (wd3 b)) := fun w' h => (nB w' h).cell 3
  have hfin : Below w.heap.size w (w3.alloc (.cells #[.int .u64 S] 27)) := hw3.alloc hw3.size _
  have hfs : w.heap.size ≤ w3.heap.size + 1 := Nat.le_succ_of_le hw3.size
  have HA : Hid (∀ w', SL (w3.heap.size + 1) (w3.alloc (.cells #[.int .u64 S] 27)) w' → Blk w' w.heap.size 24 (W4 (wd0 a) (wd1 a) (wd2 a) (wd3 a))) := nA
  have HBB : Hid (∀ w', SL (w3.heap.size + 1) (w3.alloc (.cells #[.int .u64 S] 27)) w' → Blk w' (w.heap.size + 1) 24 (W4 (wd0 b) (wd1 b) (wd2 b) (wd3 b))) := nB
  clear nA nB kA kB hw3
  go_region_held3 (SL (w3.heap.size + 1) (w3.alloc (.cells #[.int .u64 S] 27))) (first
      | exact ag
      | exact ⟨(Below.refl _ _).drew⟩)
    (first
      | (go_at_call 8; refine id_any.mono ?_; rintro e aw ⟨rfl, ah⟩; have ag : SL (w3.heap.size + 1) (w3.alloc (.cells #[.int .u64 S] 27)) aw := (by refine SL.call ?_ hlt ah; assumption))
      | (go_at_call 13; refine (c13a.out _).mono ?_; rintro e aw ⟨rfl, ah⟩; have ag : SL (w3.heap.size + 1) (w3.alloc (.cells #[.int .u64 S] 27)) aw := (by refine SL.call ?_ hlt ah; assumption)))
  go_wp2
  go_region_held3 (SL (w3.heap.size + 1) (w3.alloc (.cells #[.int .u64 S] 27))) (first
      | exact bg
      | exact ⟨ag.low.drew⟩)
    (first
      | (go_at_call 8; refine id_any.mono ?_; rintro e bw ⟨rfl, bh⟩; have bg : SL (w3.heap.size + 1) (w3.alloc (.cells #[.int .u64 S] 27)) bw := (by refine SL.call ?_ hlt bh; assumption))
      | (go_at_call 13; refine (c13b.out _).mono ?_; rintro e bw ⟨rfl, bh⟩; have bg : SL (w3.heap.size + 1) (w3.alloc (.cells #[.int .u64 S] 27)) bw := (by refine SL.call ?_ hlt bh; assumption)))
  obtain ⟨u0, u1, u2, u3⟩ := (HA.out _ bg).c4
  obtain ⟨v0, v1, v2, v3⟩ := (HBB.out _ bg).c4
  have hw4 := hfin.trans (bg.low.mono hfs)
  have pA := HA.out _ bg
  have pB := HBB.out _ bg
  clear nS nA0 nA1 nA2 nA3 nB0 nB1 nB2 nB3
  go_wp2_with (first
    | (go_at_call 14; refine (sub4_any hb ha).mono ?_; rintro e w5 ⟨rfl, hb5⟩; have hw5 := below_call hw4 hb5; have qA := pA.call hb5; have qB := pB.call hb5; clear u0 u1 u2 u3 v0 v1 v2 v3 hb5 pA pB hw4)
    | (go_at_call 12; refine (c12.out _).mono ?_; rintro e w6 ⟨rfl, hb6⟩; have hw6 := below_call hw5 hb6; have rA := qA.call hb6; have rB := qB.call hb6; clear hb6 qA qB hw5))
  go_region
  have hwD : Below w.heap.size w ((w6.alloc (.cells (W4 (wd0 d) (wd1 d) (wd2 d) (wd3 d)) 24)).drew) := (hw6.alloc hw6.size (.cells (W4 (wd0 d) (wd1 d) (wd2 d) (wd3 d)) 24)).drew
  have xA : Blk ((w6.alloc (.cells (W4 (wd0 d) (wd1 d) (wd2 d) (wd3 d)) 24)).drew) w.heap.size 24 (W4 (wd0 a) (wd1 a) (wd2 a) (wd3 a)) := (rA.alloc (.cells (W4 (wd0 d) (wd1 d) (wd2 d) (wd3 d)) 24)).drew
  have xB : Blk ((w6.alloc (.cells (W4 (wd0 d) (wd1 d) (wd2 d) (wd3 d)) 24)).drew) (w.heap.size + 1) 24 (W4 (wd0 b) (wd1 b) (wd2 b) (wd3 b)) := (rB.alloc (.cells (W4 (wd0 d) (wd1 d) (wd2 d) (wd3 d)) 24)).drew
  obtain ⟨u0, u1, u2, u3⟩ := rA.c4
  obtain ⟨v0, v1, v2, v3⟩ := rB.c4
  have ul := rA.lt
  have vl := rB.lt
  have t3 : True := trivial
  go_wp2_with (first
    | (go_at_call 16; have _u := t3; refine (c16a.out _).mono ?_; rintro e w7 ⟨rfl, hb7⟩; clear t3; have hw7 := below_call hwD hb7; obtain ⟨p0, p1, p2, p3⟩ := (xA.call hb7).c4; obtain ⟨q0, q1, q2, q3⟩ := (xB.call hb7).c4; clear u0 u1 u2 u3 v0 v1 v2 v3 ul vl)
    | (go_at_call 16; refine (c16b.out _).mono ?_; rintro e w8 ⟨rfl, hb8⟩; have hw8 := below_call hw7 hb8))
  go_ret
  exact ⟨rfl, hw8⟩

set_option maxRecDepth 100000 in
set_option maxHeartbeats 2000000 in
theorem law2_half {S X Y : Int} {a b d : Nat} {w : World} (c13a : Hid (∀ w, Calls Try.prog 13 #[.agg #[.int .u64 S], .agg #[.int .u64 (wd0 a), .int .u64 (wd1 a), .int .u64 (wd2 a), .int .u64 (wd3 a)], .agg #[.int .u64 (wd0 b), .int .u64 (wd1 b), .int .u64 (wd2 b), .int .u64 (wd3 b)]] w fun e w' => e = .returned (.int .i64 X) ∧ Below w.heap.size w w'))
    (c13b : Hid (∀ w, Calls Try.prog 13 #[.agg #[.int .u64 S], .agg #[.int .u64 (wd0 b), .int .u64 (wd1 b), .int .u64 (wd2 b), .int .u64 (wd3 b)], .agg #[.int .u64 (wd0 a), .int .u64 (wd1 a), .int .u64 (wd2 a), .int .u64 (wd3 a)]] w fun e w' => e = .returned (.int .i64 Y) ∧ Below w.heap.size w w'))
    (c12 : Hid (∀ w, Calls Try.prog 12 #[.agg #[.int .u64 (wd0 (subN b a)), .int .u64 (wd1 (subN b a)), .int .u64 (wd2 (subN b a)), .int .u64 (wd3 (subN b a))], .int .i64 (160 - S)] w fun e w' => e = .returned (.agg #[.int .u64 (wd0 d), .int .u64 (wd1 d), .int .u64 (wd2 d), .int .u64 (wd3 d)]) ∧ Below w.heap.size w w'))
    (c16a : Hid (∀ w, Calls Try.prog 16 #[.agg #[.int .u64 (wd0 a), .int .u64 (wd1 a), .int .u64 (wd2 a), .int .u64 (wd3 a)], .agg #[.int .u64 (wd0 b), .int .u64 (wd1 b), .int .u64 (wd2 b), .int .u64 (wd3 b)], .int .i64 (160 - S)] w fun e w' => e = .returned (.int .i64 X) ∧ Below w.heap.size w w'))
    (c16b : Hid (∀ w, Calls Try.prog 16 #[.agg #[.int .u64 (wd0 b), .int .u64 (wd1 b), .int .u64 (wd2 b), .int .u64 (wd3 b)], .agg #[.int .u64 (wd0 a), .int .u64 (wd1 a), .int .u64 (wd2 a), .int .u64 (wd3 a)], .int .i64 (160 - S)] w fun e w' => e = .returned (.int .i64 Y) ∧ Below w.heap.size w w'))
    (hd : Big d) (h0 : 0 ≤ S) (h1 : S ≤ 159) (ha : Big a) (hb : Big b) (da : decide (lowN a 160 = a) = true) (db : decide (lowN b 160 = b) = true)
    {N : Nat} (c15 : Hid (∀ w, Calls Try.prog 15 #[.int .i64 (160 - S)] w fun e w' => e = .returned (.agg #[.int .u64 (wd0 N), .int .u64 (wd1 N), .int .u64 (wd2 N), .int .u64 (wd3 N)]) ∧ Below w.heap.size w w'))
    (hN : Big N) (dz : decide (d = 0) = false) (dn : decide (d = N) = true) (hdir : (X == Y) = true) :
    Calls Try.prog 4 #[.int .u64 S, .agg #[.int .u64 (wd0 a), .int .u64 (wd1 a), .int .u64 (wd2 a), .int .u64 (wd3 a)], .agg #[.int .u64 (wd0 b), .int .u64 (wd1 b), .int .u64 (wd2 b), .int .u64 (wd3 b)]] w fun e w' => e = .returned (.bool true) ∧ Below w.heap.size w w' := by
  have t1 : True := trivial
  have t2 : True := trivial
  have ez : ∀ w, (binOp .eql 24 (.agg #[.int .u64 (wd0 d), .int .u64 (wd1 d), .int .u64 (wd2 d), .int .u64 (wd3 d)]) (.agg #[.int .u64 0, .int .u64 0, .int .u64 0, .int .u64 0])).run Try.prog w = .ok (.bool false) w := fun w => by rw [eqlZero hd, dz]
  have eh : ∀ w, (binOp .eql 24 (.agg #[.int .u64 (wd0 d), .int .u64 (wd1 d), .int .u64 (wd2 d), .int .u64 (wd3 d)]) (.agg #[.int .u64 (wd0 N), .int .u64 (wd1 N), .int .u64 (wd2 N), .int .u64 (wd3 N)])).run Try.prog w = .ok (.bool true) w := fun w => by rw [eqlN hd hN, dn]
  go_enter Try.func4, Try.ntmps4
  go_wp2_with (first
    | (go_at_call 6; have _u := t1; refine (onRing_any h160 (by decide) (by decide) ha).mono ?_; rintro e w1 ⟨rfl, hb1⟩; clear t1; have hw1 := below_call (ab_below w a b) hb1; have kA := (ab_a w a b).call hb1; have kB := (ab_b w a b).call hb1; clear hb1; obtain ⟨cb0, cb1, cb2, cb3⟩ := kB.c4; have cbl := kB.lt)
    | (go_at_call 6; have _u := t2; refine (onRing_any h160 (by decide) (by decide) hb).mono ?_; rintro e w2 ⟨rfl, hb2⟩; clear t2 cb0 cb1 cb2 cb3 cbl; have hw2 := below_call hw1 hb2; have jA := kA.call hb2; have jB := kB.call hb2; clear hb2 kA kB hw1)
    | (go_at_call 7; refine space_any.mono ?_; rintro e w3 ⟨rfl, hb3⟩; have hw3 := below_call hw2 hb3; have kA := jA.call hb3; have kB := jB.call hb3; clear hb3 jA jB hw2))
  have hlt : w3.heap.size + 1 ≤ (w3.alloc (.cells #[.int .u64 S] 27)).heap.size := by simp
  have nA : ∀ w', SL (w3.heap.size + 1) (w3.alloc (.cells #[.int .u64 S] 27)) w' → Blk w' w.heap.size 24 (W4 (wd0 a) (wd1 a) (wd2 a) (wd3 a)) := fun w' h => (kA.alloc (.cells #[.int .u64 S] 27)).below h.low (Nat.lt_succ_of_lt kA.lt)
  have nB : ∀ w', SL (w3.heap.size + 1) (w3.alloc (.cells #[.int .u64 S] 27)) w' → Blk w' (w.heap.size + 1) 24 (W4 (wd0 b) (wd1 b) (wd2 b) (wd3 b)) := fun w' h => (kB.alloc (.cells #[.int .u64 S] 27)).below h.low (Nat.lt_succ_of_lt kB.lt)
  have nS : ∀ w', SL (w3.heap.size + 1) (w3.alloc (.cells #[.int .u64 S] 27)) w' → w'.cell? ⟨w3.heap.size, 0, none⟩ = some (.int .u64 S) := fun w' h => ((Blk.new w3 27 #[.int .u64 S]).below h.low (Nat.lt_succ_self _)).cell 0
  have nA0 : ∀ w', SL (w3.heap.size + 1) (w3.alloc (.cells #[.int .u64 S] 27)) w' → w'.cell? ⟨w.heap.size, 0, none⟩ = some (.int .u64 (wd0 a)) := fun w' h => (nA w' h).cell 0
  have nA1 : ∀ w', SL (w3.heap.size + 1) (w3.alloc (.cells #[.int .u64 S] 27)) w' → w'.cell? ⟨w.heap.size, 1, none⟩ = some (.int .u64 (wd1 a)) := fun w' h => (nA w' h).cell 1
  have nA2 : ∀ w', SL (w3.heap.size + 1) (w3.alloc (.cells #[.int .u64 S] 27)) w' → w'.cell? ⟨w.heap.size, 2, none⟩ = some (.int .u64 (wd2 a)) := fun w' h => (nA w' h).cell 2
  have nA3 : ∀ w', SL (w3.heap.size + 1) (w3.alloc (.cells #[.int .u64 S] 27)) w' → w'.cell? ⟨w.heap.size, 3, none⟩ = some (.int .u64 (wd3 a)) := fun w' h => (nA w' h).cell 3
  have nB0 : ∀ w', SL (w3.heap.size + 1) (w3.alloc (.cells #[.int .u64 S] 27)) w' → w'.cell? ⟨w.heap.size + 1, 0, none⟩ = some (.int .u64 (wd0 b)) := fun w' h => (nB w' h).cell 0
  have nB1 : ∀ w', SL (w3.heap.size + 1) (w3.alloc (.cells #[.int .u64 S] 27)) w' → w'.cell? ⟨w.heap.size + 1, 1, none⟩ = some (.int .u64 (wd1 b)) := fun w' h => (nB w' h).cell 1
  have nB2 : ∀ w', SL (w3.heap.size + 1) (w3.alloc (.cells #[.int .u64 S] 27)) w' → w'.cell? ⟨w.heap.size + 1, 2, none⟩ = some (.int .u64 (wd2 b)) := fun w' h => (nB w' h).cell 2
  have nB3 : ∀ w', SL (w3.heap.size + 1) (w3.alloc (.cells #[.int .u64 S] 27)) w' → w'.cell? ⟨w.heap.size + 1, 3, none⟩ = some (.int .u64 (wd3 b)) := fun w' h => (nB w' h).cell 3
  have hfin : Below w.heap.size w (w3.alloc (.cells #[.int .u64 S] 27)) := hw3.alloc hw3.size _
  have hfs : w.heap.size ≤ w3.heap.size + 1 := Nat.le_succ_of_le hw3.size
  have HA : Hid (∀ w', SL (w3.heap.size + 1) (w3.alloc (.cells #[.int .u64 S] 27)) w' → Blk w' w.heap.size 24 (W4 (wd0 a) (wd1 a) (wd2 a) (wd3 a))) := nA
  have HBB : Hid (∀ w', SL (w3.heap.size + 1) (w3.alloc (.cells #[.int .u64 S] 27)) w' → Blk w' (w.heap.size + 1) 24 (W4 (wd0 b) (wd1 b) (wd2 b) (wd3 b))) := nB
  clear nA nB kA kB hw3
  go_region_held3 (SL (w3.heap.size + 1) (w3.alloc (.cells #[.int .u64 S] 27))) (first
      | exact ag
      | exact ⟨(Below.refl _ _).drew⟩)
    (first
      | (go_at_call 8; refine id_any.mono ?_; rintro e aw ⟨rfl, ah⟩; have ag : SL (w3.heap.size + 1) (w3.alloc (.cells #[.int .u64 S] 27)) aw := (by refine SL.call ?_ hlt ah; assumption))
      | (go_at_call 13; refine (c13a.out _).mono ?_; rintro e aw ⟨rfl, ah⟩; have ag : SL (w3.heap.size + 1) (w3.alloc (.cells #[.int .u64 S] 27)) aw := (by refine SL.call ?_ hlt ah; assumption)))
  go_wp2
  go_region_held3 (SL (w3.heap.size + 1) (w3.alloc (.cells #[.int .u64 S] 27))) (first
      | exact bg
      | exact ⟨ag.low.drew⟩)
    (first
      | (go_at_call 8; refine id_any.mono ?_; rintro e bw ⟨rfl, bh⟩; have bg : SL (w3.heap.size + 1) (w3.alloc (.cells #[.int .u64 S] 27)) bw := (by refine SL.call ?_ hlt bh; assumption))
      | (go_at_call 13; refine (c13b.out _).mono ?_; rintro e bw ⟨rfl, bh⟩; have bg : SL (w3.heap.size + 1) (w3.alloc (.cells #[.int .u64 S] 27)) bw := (by refine SL.call ?_ hlt bh; assumption)))
  obtain ⟨u0, u1, u2, u3⟩ := (HA.out _ bg).c4
  obtain ⟨v0, v1, v2, v3⟩ := (HBB.out _ bg).c4
  have hw4 := hfin.trans (bg.low.mono hfs)
  have pA := HA.out _ bg
  have pB := HBB.out _ bg
  clear nS nA0 nA1 nA2 nA3 nB0 nB1 nB2 nB3
  go_wp2_with (first
    | (go_at_call 14; refine (sub4_any hb ha).mono ?_; rintro e w5 ⟨rfl, hb5⟩; have hw5 := below_call hw4 hb5; have qA := pA.call hb5; have qB := pB.call hb5; clear u0 u1 u2 u3 v0 v1 v2 v3 hb5 pA pB hw4)
    | (go_at_call 12; refine (c12.out _).mono ?_; rintro e w6 ⟨rfl, hb6⟩; have hw6 := below_call hw5 hb6; have rA := qA.call hb6; have rB := qB.call hb6; clear hb6 qA qB hw5))
  have hlt6 : w6.heap.size + 1 ≤ (w6.alloc (.cells (W4 (wd0 d) (wd1 d) (wd2 d) (wd3 d)) 24)).heap.size := by simp
  have nD : ∀ w', SL (w6.heap.size + 1) (w6.alloc (.cells (W4 (wd0 d) (wd1 d) (wd2 d) (wd3 d)) 24)) w' → Blk w' w6.heap.size 24 (W4 (wd0 d) (wd1 d) (wd2 d) (wd3 d)) := fun w' h => (Blk.new w6 24 _).below h.low (Nat.lt_succ_self _)
  have d0 : ∀ w', SL (w6.heap.size + 1) (w6.alloc (.cells (W4 (wd0 d) (wd1 d) (wd2 d) (wd3 d)) 24)) w' → w'.cell? ⟨w6.heap.size, 0, none⟩ = some (.int .u64 (wd0 d)) := fun w' h => (nD w' h).cell 0
  have d1 : ∀ w', SL (w6.heap.size + 1) (w6.alloc (.cells (W4 (wd0 d) (wd1 d) (wd2 d) (wd3 d)) 24)) w' → w'.cell? ⟨w6.heap.size, 1, none⟩ = some (.int .u64 (wd1 d)) := fun w' h => (nD w' h).cell 1
  have d2 : ∀ w', SL (w6.heap.size + 1) (w6.alloc (.cells (W4 (wd0 d) (wd1 d) (wd2 d) (wd3 d)) 24)) w' → w'.cell? ⟨w6.heap.size, 2, none⟩ = some (.int .u64 (wd2 d)) := fun w' h => (nD w' h).cell 2
  have d3 : ∀ w', SL (w6.heap.size + 1) (w6.alloc (.cells (W4 (wd0 d) (wd1 d) (wd2 d) (wd3 d)) 24)) w' → w'.cell? ⟨w6.heap.size, 3, none⟩ = some (.int .u64 (wd3 d)) := fun w' h => (nD w' h).cell 3
  clear nD
  go_region_held3 (SL (w6.heap.size + 1) (w6.alloc (.cells (W4 (wd0 d) (wd1 d) (wd2 d) (wd3 d)) 24))) (first
      | exact dg
      | exact ⟨(Below.refl _ _).drew⟩)
    (first | (go_at_call 15; refine (c15.out _).mono ?_; rintro e dw ⟨rfl, dh5⟩; have dg : SL (w6.heap.size + 1) (w6.alloc (.cells (W4 (wd0 d) (wd1 d) (wd2 d) (wd3 d)) 24)) dw := (by refine SL.call ?_ hlt6 dh5; assumption)))
  clear d0 d1 d2 d3
  have hwD : Below w.heap.size w dw := (hw6.alloc hw6.size (.cells (W4 (wd0 d) (wd1 d) (wd2 d) (wd3 d)) 24)).trans (dg.low.mono (Nat.le_succ_of_le hw6.size))
  have xA : Blk dw w.heap.size 24 (W4 (wd0 a) (wd1 a) (wd2 a) (wd3 a)) := (rA.alloc (.cells (W4 (wd0 d) (wd1 d) (wd2 d) (wd3 d)) 24)).below dg.low (Nat.lt_succ_of_lt rA.lt)
  have xB : Blk dw (w.heap.size + 1) 24 (W4 (wd0 b) (wd1 b) (wd2 b) (wd3 b)) := (rB.alloc (.cells (W4 (wd0 d) (wd1 d) (wd2 d) (wd3 d)) 24)).below dg.low (Nat.lt_succ_of_lt rB.lt)
  obtain ⟨u0, u1, u2, u3⟩ := xA.c4
  obtain ⟨v0, v1, v2, v3⟩ := xB.c4
  have ul := xA.lt
  have vl := xB.lt
  have t3 : True := trivial
  go_wp2_with (first
    | (go_at_call 16; have _u := t3; refine (c16a.out _).mono ?_; rintro e w7 ⟨rfl, hb7⟩; clear t3; have hw7 := below_call hwD hb7; obtain ⟨p0, p1, p2, p3⟩ := (xA.call hb7).c4; obtain ⟨q0, q1, q2, q3⟩ := (xB.call hb7).c4; clear u0 u1 u2 u3 v0 v1 v2 v3 ul vl)
    | (go_at_call 16; refine (c16b.out _).mono ?_; rintro e w8 ⟨rfl, hb8⟩; have hw8 := below_call hw7 hb8))
  go_ret
  exact ⟨rfl, hw8⟩

set_option maxRecDepth 100000 in
set_option maxHeartbeats 2000000 in
theorem law2_else {S X Y : Int} {a b d : Nat} {w : World} (c13a : Hid (∀ w, Calls Try.prog 13 #[.agg #[.int .u64 S], .agg #[.int .u64 (wd0 a), .int .u64 (wd1 a), .int .u64 (wd2 a), .int .u64 (wd3 a)], .agg #[.int .u64 (wd0 b), .int .u64 (wd1 b), .int .u64 (wd2 b), .int .u64 (wd3 b)]] w fun e w' => e = .returned (.int .i64 X) ∧ Below w.heap.size w w'))
    (c13b : Hid (∀ w, Calls Try.prog 13 #[.agg #[.int .u64 S], .agg #[.int .u64 (wd0 b), .int .u64 (wd1 b), .int .u64 (wd2 b), .int .u64 (wd3 b)], .agg #[.int .u64 (wd0 a), .int .u64 (wd1 a), .int .u64 (wd2 a), .int .u64 (wd3 a)]] w fun e w' => e = .returned (.int .i64 Y) ∧ Below w.heap.size w w'))
    (c12 : Hid (∀ w, Calls Try.prog 12 #[.agg #[.int .u64 (wd0 (subN b a)), .int .u64 (wd1 (subN b a)), .int .u64 (wd2 (subN b a)), .int .u64 (wd3 (subN b a))], .int .i64 (160 - S)] w fun e w' => e = .returned (.agg #[.int .u64 (wd0 d), .int .u64 (wd1 d), .int .u64 (wd2 d), .int .u64 (wd3 d)]) ∧ Below w.heap.size w w'))
    (c16a : Hid (∀ w, Calls Try.prog 16 #[.agg #[.int .u64 (wd0 a), .int .u64 (wd1 a), .int .u64 (wd2 a), .int .u64 (wd3 a)], .agg #[.int .u64 (wd0 b), .int .u64 (wd1 b), .int .u64 (wd2 b), .int .u64 (wd3 b)], .int .i64 (160 - S)] w fun e w' => e = .returned (.int .i64 X) ∧ Below w.heap.size w w'))
    (c16b : Hid (∀ w, Calls Try.prog 16 #[.agg #[.int .u64 (wd0 b), .int .u64 (wd1 b), .int .u64 (wd2 b), .int .u64 (wd3 b)], .agg #[.int .u64 (wd0 a), .int .u64 (wd1 a), .int .u64 (wd2 a), .int .u64 (wd3 a)], .int .i64 (160 - S)] w fun e w' => e = .returned (.int .i64 Y) ∧ Below w.heap.size w w'))
    (hd : Big d) (h0 : 0 ≤ S) (h1 : S ≤ 159) (ha : Big a) (hb : Big b) (da : decide (lowN a 160 = a) = true) (db : decide (lowN b 160 = b) = true)
    {N : Nat} (c15 : Hid (∀ w, Calls Try.prog 15 #[.int .i64 (160 - S)] w fun e w' => e = .returned (.agg #[.int .u64 (wd0 N), .int .u64 (wd1 N), .int .u64 (wd2 N), .int .u64 (wd3 N)]) ∧ Below w.heap.size w w'))
    (hN : Big N) (dz : decide (d = 0) = false) (dn : decide (d = N) = false) (hdir : (X == Y) = false) :
    Calls Try.prog 4 #[.int .u64 S, .agg #[.int .u64 (wd0 a), .int .u64 (wd1 a), .int .u64 (wd2 a), .int .u64 (wd3 a)], .agg #[.int .u64 (wd0 b), .int .u64 (wd1 b), .int .u64 (wd2 b), .int .u64 (wd3 b)]] w fun e w' => e = .returned (.bool true) ∧ Below w.heap.size w w' := by
  have t1 : True := trivial
  have t2 : True := trivial
  have ez : ∀ w, (binOp .eql 24 (.agg #[.int .u64 (wd0 d), .int .u64 (wd1 d), .int .u64 (wd2 d), .int .u64 (wd3 d)]) (.agg #[.int .u64 0, .int .u64 0, .int .u64 0, .int .u64 0])).run Try.prog w = .ok (.bool false) w := fun w => by rw [eqlZero hd, dz]
  have eh : ∀ w, (binOp .eql 24 (.agg #[.int .u64 (wd0 d), .int .u64 (wd1 d), .int .u64 (wd2 d), .int .u64 (wd3 d)]) (.agg #[.int .u64 (wd0 N), .int .u64 (wd1 N), .int .u64 (wd2 N), .int .u64 (wd3 N)])).run Try.prog w = .ok (.bool false) w := fun w => by rw [eqlN hd hN, dn]
  go_enter Try.func4, Try.ntmps4
  go_wp2_with (first
    | (go_at_call 6; have _u := t1; refine (onRing_any h160 (by decide) (by decide) ha).mono ?_; rintro e w1 ⟨rfl, hb1⟩; clear t1; have hw1 := below_call (ab_below w a b) hb1; have kA := (ab_a w a b).call hb1; have kB := (ab_b w a b).call hb1; clear hb1; obtain ⟨cb0, cb1, cb2, cb3⟩ := kB.c4; have cbl := kB.lt)
    | (go_at_call 6; have _u := t2; refine (onRing_any h160 (by decide) (by decide) hb).mono ?_; rintro e w2 ⟨rfl, hb2⟩; clear t2 cb0 cb1 cb2 cb3 cbl; have hw2 := below_call hw1 hb2; have jA := kA.call hb2; have jB := kB.call hb2; clear hb2 kA kB hw1)
    | (go_at_call 7; refine space_any.mono ?_; rintro e w3 ⟨rfl, hb3⟩; have hw3 := below_call hw2 hb3; have kA := jA.call hb3; have kB := jB.call hb3; clear hb3 jA jB hw2))
  have hlt : w3.heap.size + 1 ≤ (w3.alloc (.cells #[.int .u64 S] 27)).heap.size := by simp
  have nA : ∀ w', SL (w3.heap.size + 1) (w3.alloc (.cells #[.int .u64 S] 27)) w' → Blk w' w.heap.size 24 (W4 (wd0 a) (wd1 a) (wd2 a) (wd3 a)) := fun w' h => (kA.alloc (.cells #[.int .u64 S] 27)).below h.low (Nat.lt_succ_of_lt kA.lt)
  have nB : ∀ w', SL (w3.heap.size + 1) (w3.alloc (.cells #[.int .u64 S] 27)) w' → Blk w' (w.heap.size + 1) 24 (W4 (wd0 b) (wd1 b) (wd2 b) (wd3 b)) := fun w' h => (kB.alloc (.cells #[.int .u64 S] 27)).below h.low (Nat.lt_succ_of_lt kB.lt)
  have nS : ∀ w', SL (w3.heap.size + 1) (w3.alloc (.cells #[.int .u64 S] 27)) w' → w'.cell? ⟨w3.heap.size, 0, none⟩ = some (.int .u64 S) := fun w' h => ((Blk.new w3 27 #[.int .u64 S]).below h.low (Nat.lt_succ_self _)).cell 0
  have nA0 : ∀ w', SL (w3.heap.size + 1) (w3.alloc (.cells #[.int .u64 S] 27)) w' → w'.cell? ⟨w.heap.size, 0, none⟩ = some (.int .u64 (wd0 a)) := fun w' h => (nA w' h).cell 0
  have nA1 : ∀ w', SL (w3.heap.size + 1) (w3.alloc (.cells #[.int .u64 S] 27)) w' → w'.cell? ⟨w.heap.size, 1, none⟩ = some (.int .u64 (wd1 a)) := fun w' h => (nA w' h).cell 1
  have nA2 : ∀ w', SL (w3.heap.size + 1) (w3.alloc (.cells #[.int .u64 S] 27)) w' → w'.cell? ⟨w.heap.size, 2, none⟩ = some (.int .u64 (wd2 a)) := fun w' h => (nA w' h).cell 2
  have nA3 : ∀ w', SL (w3.heap.size + 1) (w3.alloc (.cells #[.int .u64 S] 27)) w' → w'.cell? ⟨w.heap.size, 3, none⟩ = some (.int .u64 (wd3 a)) := fun w' h => (nA w' h).cell 3
  have nB0 : ∀ w', SL (w3.heap.size + 1) (w3.alloc (.cells #[.int .u64 S] 27)) w' → w'.cell? ⟨w.heap.size + 1, 0, none⟩ = some (.int .u64 (wd0 b)) := fun w' h => (nB w' h).cell 0
  have nB1 : ∀ w', SL (w3.heap.size + 1) (w3.alloc (.cells #[.int .u64 S] 27)) w' → w'.cell? ⟨w.heap.size + 1, 1, none⟩ = some (.int .u64 (wd1 b)) := fun w' h => (nB w' h).cell 1
  have nB2 : ∀ w', SL (w3.heap.size + 1) (w3.alloc (.cells #[.int .u64 S] 27)) w' → w'.cell? ⟨w.heap.size + 1, 2, none⟩ = some (.int .u64 (wd2 b)) := fun w' h => (nB w' h).cell 2
  have nB3 : ∀ w', SL (w3.heap.size + 1) (w3.alloc (.cells #[.int .u64 S] 27)) w' → w'.cell? ⟨w.heap.size + 1, 3, none⟩ = some (.int .u64 (wd3 b)) := fun w' h => (nB w' h).cell 3
  have hfin : Below w.heap.size w (w3.alloc (.cells #[.int .u64 S] 27)) := hw3.alloc hw3.size _
  have hfs : w.heap.size ≤ w3.heap.size + 1 := Nat.le_succ_of_le hw3.size
  have HA : Hid (∀ w', SL (w3.heap.size + 1) (w3.alloc (.cells #[.int .u64 S] 27)) w' → Blk w' w.heap.size 24 (W4 (wd0 a) (wd1 a) (wd2 a) (wd3 a))) := nA
  have HBB : Hid (∀ w', SL (w3.heap.size + 1) (w3.alloc (.cells #[.int .u64 S] 27)) w' → Blk w' (w.heap.size + 1) 24 (W4 (wd0 b) (wd1 b) (wd2 b) (wd3 b))) := nB
  clear nA nB kA kB hw3
  go_region_held3 (SL (w3.heap.size + 1) (w3.alloc (.cells #[.int .u64 S] 27))) (first
      | exact ag
      | exact ⟨(Below.refl _ _).drew⟩)
    (first
      | (go_at_call 8; refine id_any.mono ?_; rintro e aw ⟨rfl, ah⟩; have ag : SL (w3.heap.size + 1) (w3.alloc (.cells #[.int .u64 S] 27)) aw := (by refine SL.call ?_ hlt ah; assumption))
      | (go_at_call 13; refine (c13a.out _).mono ?_; rintro e aw ⟨rfl, ah⟩; have ag : SL (w3.heap.size + 1) (w3.alloc (.cells #[.int .u64 S] 27)) aw := (by refine SL.call ?_ hlt ah; assumption)))
  go_wp2
  go_region_held3 (SL (w3.heap.size + 1) (w3.alloc (.cells #[.int .u64 S] 27))) (first
      | exact bg
      | exact ⟨ag.low.drew⟩)
    (first
      | (go_at_call 8; refine id_any.mono ?_; rintro e bw ⟨rfl, bh⟩; have bg : SL (w3.heap.size + 1) (w3.alloc (.cells #[.int .u64 S] 27)) bw := (by refine SL.call ?_ hlt bh; assumption))
      | (go_at_call 13; refine (c13b.out _).mono ?_; rintro e bw ⟨rfl, bh⟩; have bg : SL (w3.heap.size + 1) (w3.alloc (.cells #[.int .u64 S] 27)) bw := (by refine SL.call ?_ hlt bh; assumption)))
  obtain ⟨u0, u1, u2, u3⟩ := (HA.out _ bg).c4
  obtain ⟨v0, v1, v2, v3⟩ := (HBB.out _ bg).c4
  have hw4 := hfin.trans (bg.low.mono hfs)
  have pA := HA.out _ bg
  have pB := HBB.out _ bg
  clear nS nA0 nA1 nA2 nA3 nB0 nB1 nB2 nB3
  go_wp2_with (first
    | (go_at_call 14; refine (sub4_any hb ha).mono ?_; rintro e w5 ⟨rfl, hb5⟩; have hw5 := below_call hw4 hb5; have qA := pA.call hb5; have qB := pB.call hb5; clear u0 u1 u2 u3 v0 v1 v2 v3 hb5 pA pB hw4)
    | (go_at_call 12; refine (c12.out _).mono ?_; rintro e w6 ⟨rfl, hb6⟩; have hw6 := below_call hw5 hb6; have rA := qA.call hb6; have rB := qB.call hb6; clear hb6 qA qB hw5))
  have hlt6 : w6.heap.size + 1 ≤ (w6.alloc (.cells (W4 (wd0 d) (wd1 d) (wd2 d) (wd3 d)) 24)).heap.size := by simp
  have nD : ∀ w', SL (w6.heap.size + 1) (w6.alloc (.cells (W4 (wd0 d) (wd1 d) (wd2 d) (wd3 d)) 24)) w' → Blk w' w6.heap.size 24 (W4 (wd0 d) (wd1 d) (wd2 d) (wd3 d)) := fun w' h => (Blk.new w6 24 _).below h.low (Nat.lt_succ_self _)
  have d0 : ∀ w', SL (w6.heap.size + 1) (w6.alloc (.cells (W4 (wd0 d) (wd1 d) (wd2 d) (wd3 d)) 24)) w' → w'.cell? ⟨w6.heap.size, 0, none⟩ = some (.int .u64 (wd0 d)) := fun w' h => (nD w' h).cell 0
  have d1 : ∀ w', SL (w6.heap.size + 1) (w6.alloc (.cells (W4 (wd0 d) (wd1 d) (wd2 d) (wd3 d)) 24)) w' → w'.cell? ⟨w6.heap.size, 1, none⟩ = some (.int .u64 (wd1 d)) := fun w' h => (nD w' h).cell 1
  have d2 : ∀ w', SL (w6.heap.size + 1) (w6.alloc (.cells (W4 (wd0 d) (wd1 d) (wd2 d) (wd3 d)) 24)) w' → w'.cell? ⟨w6.heap.size, 2, none⟩ = some (.int .u64 (wd2 d)) := fun w' h => (nD w' h).cell 2
  have d3 : ∀ w', SL (w6.heap.size + 1) (w6.alloc (.cells (W4 (wd0 d) (wd1 d) (wd2 d) (wd3 d)) 24)) w' → w'.cell? ⟨w6.heap.size, 3, none⟩ = some (.int .u64 (wd3 d)) := fun w' h => (nD w' h).cell 3
  clear nD
  go_region_held3 (SL (w6.heap.size + 1) (w6.alloc (.cells (W4 (wd0 d) (wd1 d) (wd2 d) (wd3 d)) 24))) (first
      | exact dg
      | exact ⟨(Below.refl _ _).drew⟩)
    (first | (go_at_call 15; refine (c15.out _).mono ?_; rintro e dw ⟨rfl, dh5⟩; have dg : SL (w6.heap.size + 1) (w6.alloc (.cells (W4 (wd0 d) (wd1 d) (wd2 d) (wd3 d)) 24)) dw := (by refine SL.call ?_ hlt6 dh5; assumption)))
  clear d0 d1 d2 d3
  have hwD : Below w.heap.size w dw := (hw6.alloc hw6.size (.cells (W4 (wd0 d) (wd1 d) (wd2 d) (wd3 d)) 24)).trans (dg.low.mono (Nat.le_succ_of_le hw6.size))
  have xA : Blk dw w.heap.size 24 (W4 (wd0 a) (wd1 a) (wd2 a) (wd3 a)) := (rA.alloc (.cells (W4 (wd0 d) (wd1 d) (wd2 d) (wd3 d)) 24)).below dg.low (Nat.lt_succ_of_lt rA.lt)
  have xB : Blk dw (w.heap.size + 1) 24 (W4 (wd0 b) (wd1 b) (wd2 b) (wd3 b)) := (rB.alloc (.cells (W4 (wd0 d) (wd1 d) (wd2 d) (wd3 d)) 24)).below dg.low (Nat.lt_succ_of_lt rB.lt)
  obtain ⟨u0, u1, u2, u3⟩ := xA.c4
  obtain ⟨v0, v1, v2, v3⟩ := xB.c4
  have ul := xA.lt
  have vl := xB.lt
  have t3 : True := trivial
  go_wp2_with (first
    | (go_at_call 16; have _u := t3; refine (c16a.out _).mono ?_; rintro e w7 ⟨rfl, hb7⟩; clear t3; have hw7 := below_call hwD hb7; obtain ⟨p0, p1, p2, p3⟩ := (xA.call hb7).c4; obtain ⟨q0, q1, q2, q3⟩ := (xB.call hb7).c4; clear u0 u1 u2 u3 v0 v1 v2 v3 ul vl)
    | (go_at_call 16; refine (c16b.out _).mono ?_; rintro e w8 ⟨rfl, hb8⟩; have hw8 := below_call hw7 hb8))
  go_ret
  exact ⟨rfl, hw8⟩

end Go.Proofs.Qxb6614289a
