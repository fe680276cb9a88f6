/-
  Seat b6614289a: the first law's walk.
-/
import Derived.Test.Qxb6614289aL
namespace Go.Proofs.Qxb6614289a
open Go.RowKit

theorem Blk.call {w w' : World} {b : Nat} {t : TypeId} {vs : Array Value} (h : Blk w b t vs) (hb : Below w.heap.size w w') : Blk w' b t vs := h.below hb h.lt
theorem Blk.new2 (w : World) (o : Obj) (t : TypeId) (vs : Array Value) : Blk ((w.alloc o).alloc (.cells vs t)) (w.heap.size + 1) t vs := by
  have h := Blk.new (w.alloc o) t vs
  rwa [World.size_alloc] at h

theorem eqlSelf {a : Nat} (ha : Big a) (w : World) : (binOp .eql 24 (.agg #[.int .u64 (wd0 a), .int .u64 (wd1 a), .int .u64 (wd2 a), .int .u64 (wd3 a)]) (.agg #[.int .u64 (wd0 a), .int .u64 (wd1 a), .int .u64 (wd2 a), .int .u64 (wd3 a)])).run Try.prog w = .ok (.bool true) w := by
  rw [eqlN ha ha]; simp

theorem h160 : Hid ((160 : Int) = ((160 : Nat) : Int)) := rfl

/-- A world in which the boxes of a and b lie first. -/
def ab (w : World) (a b : Nat) : World := (w.alloc (.cells (W4 (wd0 a) (wd1 a) (wd2 a) (wd3 a)) 24)).alloc (.cells (W4 (wd0 b) (wd1 b) (wd2 b) (wd3 b)) 24)
theorem ab_a (w : World) (a b : Nat) : Blk (ab w a b) w.heap.size 24 (W4 (wd0 a) (wd1 a) (wd2 a) (wd3 a)) := (Blk.new w 24 _).alloc _
theorem ab_b (w : World) (a b : Nat) : Blk (ab w a b) (w.heap.size + 1) 24 (W4 (wd0 b) (wd1 b) (wd2 b) (wd3 b)) := Blk.new2 w _ 24 _
theorem ab_below (w : World) (a b : Nat) : Below w.heap.size w (ab w a b) := ((Below.refl _ _).alloc (Nat.le_refl _) _).alloc (by simp) _

theorem big_S (S : Int) (h0 : 0 ≤ S) (h1 : S ≤ 159) : ∃ m : Nat, Hid (S = 160 - (m : Int)) ∧ Hid (160 - S = (m : Int)) ∧ 0 < m ∧ m ≤ 160 := by
  refine ⟨(160 - S).toNat, ?_, ?_, by omega, by omega⟩
  · show S = 160 - ((160 - S).toNat : Int)
    omega
  · show 160 - S = ((160 - S).toNat : Int)
    omega

/-- The shift is past 159: true. -/
theorem law1_far {S : Int} {a b : Nat} {w : World} (h0 : 159 < S) :
    Calls Try.prog 3 #[.int .u64 S, .agg #[.int .u64 (wd0 a), .int .u64 (wd1 a), .int .u64 (wd2 a), .int .u64 (wd3 a)], .agg #[.int .u64 (wd0 b), .int .u64 (wd1 b), .int .u64 (wd2 b), .int .u64 (wd3 b)]] w fun e w' => e = .returned (.bool true) ∧ Below w.heap.size w w' := by
  go_enter Try.func3, Try.ntmps3
  go_wp2
  go_ret
  exact ⟨rfl, ((Below.refl _ _).alloc (Nat.le_refl _) _).alloc (by simp) _⟩

set_option maxRecDepth 100000 in
set_option maxHeartbeats 1000000 in
/-- a is not on the ring of 160 bits: true. -/
theorem law1_offa {S : Int} {a b : Nat} {w : World} (h1 : S ≤ 159) (ha : Big a) (da : decide (lowN a 160 = a) = false) :
    Calls Try.prog 3 #[.int .u64 S, .agg #[.int .u64 (wd0 a), .int .u64 (wd1 a), .int .u64 (wd2 a), .int .u64 (wd3 a)], .agg #[.int .u64 (wd0 b), .int .u64 (wd1 b), .int .u64 (wd2 b), .int .u64 (wd3 b)]] w fun e w' => e = .returned (.bool true) ∧ Below w.heap.size w w' := by
  go_enter Try.func3, Try.ntmps3
  go_wp2_with (go_at_call 6; refine (onRing_any h160 (by decide) (by decide) ha).mono ?_; rintro e w1 ⟨rfl, hb1⟩)
  go_ret
  exact ⟨rfl, below_call (ab_below w a b) hb1⟩

set_option maxRecDepth 100000 in
set_option maxHeartbeats 1000000 in
/-- b is not on the ring of 160 bits: true. -/
theorem law1_offb {S : Int} {a b : Nat} {w : World} (h1 : S ≤ 159) (ha : Big a) (hb : Big b) (da : decide (lowN a 160 = a) = true) (db : decide (lowN b 160 = b) = false) :
    Calls Try.prog 3 #[.int .u64 S, .agg #[.int .u64 (wd0 a), .int .u64 (wd1 a), .int .u64 (wd2 a), .int .u64 (wd3 a)], .agg #[.int .u64 (wd0 b), .int .u64 (wd1 b), .int .u64 (wd2 b), .int .u64 (wd3 b)]] w fun e w' => e = .returned (.bool true) ∧ Below w.heap.size w w' := by
  have t1 : True := trivial
  go_enter Try.func3, Try.ntmps3
  go_wp2_with (first
    | (go_at_call 6; have _u := t1; refine (onRing_any h160 (by decide) (by decide) ha).mono ?_; rintro e w1 ⟨rfl, hb1⟩; clear t1; obtain ⟨c0, c1, c2, c3⟩ := ((ab_b w a b).call hb1).c4)
    | (go_at_call 6; refine (onRing_any h160 (by decide) (by decide) hb).mono ?_; rintro e w2 ⟨rfl, hb2⟩))
  go_ret
  exact ⟨rfl, below_call (below_call (ab_below w a b) hb1) hb2⟩

end Go.Proofs.Qxb6614289a
