/-
  Seat b6614289a: uint256's Lsh and Rsh where target and source are one, from 64 places on.
-/
import Derived.Test.Qxb6614289aW3
namespace Go.Proofs.Qxb6614289a
open Go.RowKit

/-- A word moved k places up, down; two words laid over each other. -/
def shlW (x : Int) (k : Nat) : Int := IntKind.u64.wrap (x * 2 ^ k)
def shrW (x : Int) (k : Nat) : Int := x / 2 ^ k
def orW (x y : Int) : Int := bits .or .u64 x y

theorem set321 {w0 w : World} {b : Nat} {x0 x1 x2 x3 v1 v2 v3 : Int} (h : Blk w b 31 (W4 x0 x1 x2 x3)) (hg : w0.grownBy w (some b)) : Blk (((w.setCell ⟨b, 3, none⟩ (.int .u64 v3)).setCell ⟨b, 2, none⟩ (.int .u64 v2)).setCell ⟨b, 1, none⟩ (.int .u64 v1)).drew.drew.drew b 31 (W4 x0 v1 v2 v3) ∧ w0.grownBy (((w.setCell ⟨b, 3, none⟩ (.int .u64 v3)).setCell ⟨b, 2, none⟩ (.int .u64 v2)).setCell ⟨b, 1, none⟩ (.int .u64 v1)).drew.drew.drew (some b) :=
  ⟨(((h.set 3 _).set 2 _).set 1 _), hg.trans ((((((grown_set w b 3 _).trans (grown_set _ b 2 _)).trans (grown_set _ b 1 _)).trans (grown_drew _ _)).trans (grown_drew _ _)).trans (grown_drew _ _))⟩
theorem set32 {w0 w : World} {b : Nat} {x0 x1 x2 x3 v2 v3 : Int} (h : Blk w b 31 (W4 x0 x1 x2 x3)) (hg : w0.grownBy w (some b)) : Blk ((w.setCell ⟨b, 3, none⟩ (.int .u64 v3)).setCell ⟨b, 2, none⟩ (.int .u64 v2)).drew.drew b 31 (W4 x0 x1 v2 v3) ∧ w0.grownBy ((w.setCell ⟨b, 3, none⟩ (.int .u64 v3)).setCell ⟨b, 2, none⟩ (.int .u64 v2)).drew.drew (some b) :=
  ⟨((h.set 3 _).set 2 _), hg.trans ((((grown_set w b 3 _).trans (grown_set _ b 2 _)).trans (grown_drew _ _)).trans (grown_drew _ _))⟩
theorem set3 {w0 w : World} {b : Nat} {x0 x1 x2 x3 v3 : Int} (h : Blk w b 31 (W4 x0 x1 x2 x3)) (hg : w0.grownBy w (some b)) : Blk (w.setCell ⟨b, 3, none⟩ (.int .u64 v3)).drew b 31 (W4 x0 x1 x2 v3) ∧ w0.grownBy (w.setCell ⟨b, 3, none⟩ (.int .u64 v3)).drew (some b) :=
  ⟨(h.set 3 _), hg.trans ((grown_set w b 3 _).trans (grown_drew _ _))⟩
theorem set012 {w0 w : World} {b : Nat} {x0 x1 x2 x3 v0 v1 v2 : Int} (h : Blk w b 31 (W4 x0 x1 x2 x3)) (hg : w0.grownBy w (some b)) : Blk (((w.setCell ⟨b, 0, none⟩ (.int .u64 v0)).setCell ⟨b, 1, none⟩ (.int .u64 v1)).setCell ⟨b, 2, none⟩ (.int .u64 v2)).drew.drew.drew b 31 (W4 v0 v1 v2 x3) ∧ w0.grownBy (((w.setCell ⟨b, 0, none⟩ (.int .u64 v0)).setCell ⟨b, 1, none⟩ (.int .u64 v1)).setCell ⟨b, 2, none⟩ (.int .u64 v2)).drew.drew.drew (some b) :=
  ⟨(((h.set 0 _).set 1 _).set 2 _), hg.trans ((((((grown_set w b 0 _).trans (grown_set _ b 1 _)).trans (grown_set _ b 2 _)).trans (grown_drew _ _)).trans (grown_drew _ _)).trans (grown_drew _ _))⟩
theorem set01 {w0 w : World} {b : Nat} {x0 x1 x2 x3 v0 v1 : Int} (h : Blk w b 31 (W4 x0 x1 x2 x3)) (hg : w0.grownBy w (some b)) : Blk ((w.setCell ⟨b, 0, none⟩ (.int .u64 v0)).setCell ⟨b, 1, none⟩ (.int .u64 v1)).drew.drew b 31 (W4 v0 v1 x2 x3) ∧ w0.grownBy ((w.setCell ⟨b, 0, none⟩ (.int .u64 v0)).setCell ⟨b, 1, none⟩ (.int .u64 v1)).drew.drew (some b) :=
  ⟨((h.set 0 _).set 1 _), hg.trans ((((grown_set w b 0 _).trans (grown_set _ b 1 _)).trans (grown_drew _ _)).trans (grown_drew _ _))⟩
theorem set0 {w0 w : World} {b : Nat} {x0 x1 x2 x3 v0 : Int} (h : Blk w b 31 (W4 x0 x1 x2 x3)) (hg : w0.grownBy w (some b)) : Blk (w.setCell ⟨b, 0, none⟩ (.int .u64 v0)).drew b 31 (W4 v0 x1 x2 x3) ∧ w0.grownBy (w.setCell ⟨b, 0, none⟩ (.int .u64 v0)).drew (some b) :=
  ⟨(h.set 0 _), hg.trans ((grown_set w b 0 _).trans (grown_drew _ _))⟩

set_option maxRecDepth 100000 in
set_option maxHeartbeats 1000000 in
theorem lshA {b : Nat} {x0 x1 x2 x3 : Int} {w : World} {N : Int} (n1 : 64 ≤ N) (n2 : N < 128) (h : Blk w b 31 (W4 x0 x1 x2 x3)) :
    Calls Try.prog 29 #[.pointer (some ⟨b, 0, none⟩), .pointer (some ⟨b, 0, none⟩), .int .u64 N] w fun e w' => e = .returned (.pointer (some ⟨b, 0, none⟩)) ∧ Blk w' b 31 (W4 0 (shlW x0 (N - 64).toNat) (orW (shlW x1 (N - 64).toNat) (shrW x0 (64 - (N - 64)).toNat)) (orW (shlW x2 (N - 64).toNat) (shrW x1 (64 - (N - 64)).toNat))) ∧ w.grownBy w' (some b) := by
  have HB : Hid (Blk w b 31 (W4 x0 x1 x2 x3)) := h
  clear h
  go_enter Try.func29, Try.ntmps29
  go_wp2_with (go_at_call 34; refine (lsh64_any HB.out).mono ?_; rintro e w1 ⟨rfl, hb1, hg1⟩)
  have c0 : w1.cell? ⟨b, 0, none⟩ = some (.int .u64 0) := hb1.cell 0
  have c1 : w1.cell? ⟨b, 1, none⟩ = some (.int .u64 x0) := hb1.cell 1
  have c2 : w1.cell? ⟨b, 2, none⟩ = some (.int .u64 x1) := hb1.cell 2
  have c3 : w1.cell? ⟨b, 3, none⟩ = some (.int .u64 x2) := hb1.cell 3
  have f0 := hb1.free 0
  have f1 := hb1.free 1
  have f2 := hb1.free 2
  have f3 := hb1.free 3
  have HB1 : Hid (Blk w1 b 31 (W4 0 x0 x1 x2)) := hb1
  clear hb1
  go_region
  go_wp2
  go_region
  go_wp2
  go_region
  go_wp2
  go_ret
  exact ⟨rfl, set321 HB1.out hg1⟩

set_option maxRecDepth 100000 in
set_option maxHeartbeats 1000000 in
theorem lshB {b : Nat} {x0 x1 x2 x3 : Int} {w : World} {N : Int} (n1 : 128 ≤ N) (n2 : N < 192) (h : Blk w b 31 (W4 x0 x1 x2 x3)) :
    Calls Try.prog 29 #[.pointer (some ⟨b, 0, none⟩), .pointer (some ⟨b, 0, none⟩), .int .u64 N] w fun e w' => e = .returned (.pointer (some ⟨b, 0, none⟩)) ∧ Blk w' b 31 (W4 0 0 (shlW x0 (N - 128).toNat) (orW (shlW x1 (N - 128).toNat) (shrW x0 (64 - (N - 128)).toNat))) ∧ w.grownBy w' (some b) := by
  have HB : Hid (Blk w b 31 (W4 x0 x1 x2 x3)) := h
  clear h
  go_enter Try.func29, Try.ntmps29
  go_wp2_with (go_at_call 33; refine (lsh128_any HB.out).mono ?_; rintro e w1 ⟨rfl, hb1, hg1⟩)
  have c0 : w1.cell? ⟨b, 0, none⟩ = some (.int .u64 0) := hb1.cell 0
  have c1 : w1.cell? ⟨b, 1, none⟩ = some (.int .u64 0) := hb1.cell 1
  have c2 : w1.cell? ⟨b, 2, none⟩ = some (.int .u64 x0) := hb1.cell 2
  have c3 : w1.cell? ⟨b, 3, none⟩ = some (.int .u64 x1) := hb1.cell 3
  have f0 := hb1.free 0
  have f1 := hb1.free 1
  have f2 := hb1.free 2
  have f3 := hb1.free 3
  have HB1 : Hid (Blk w1 b 31 (W4 0 0 x0 x1)) := hb1
  clear hb1
  go_region
  go_wp2
  go_region
  go_wp2
  go_ret
  exact ⟨rfl, set32 HB1.out hg1⟩

set_option maxRecDepth 100000 in
set_option maxHeartbeats 1000000 in
theorem lshC {b : Nat} {x0 x1 x2 x3 : Int} {w : World} {N : Int} (n1 : 192 ≤ N) (n2 : N < 256) (h : Blk w b 31 (W4 x0 x1 x2 x3)) :
    Calls Try.prog 29 #[.pointer (some ⟨b, 0, none⟩), .pointer (some ⟨b, 0, none⟩), .int .u64 N] w fun e w' => e = .returned (.pointer (some ⟨b, 0, none⟩)) ∧ Blk w' b 31 (W4 0 0 0 (shlW x0 (N - 192).toNat)) ∧ w.grownBy w' (some b) := by
  have HB : Hid (Blk w b 31 (W4 x0 x1 x2 x3)) := h
  clear h
  go_enter Try.func29, Try.ntmps29
  go_wp2_with (go_at_call 32; refine (lsh192_any HB.out).mono ?_; rintro e w1 ⟨rfl, hb1, hg1⟩)
  have c0 : w1.cell? ⟨b, 0, none⟩ = some (.int .u64 0) := hb1.cell 0
  have c1 : w1.cell? ⟨b, 1, none⟩ = some (.int .u64 0) := hb1.cell 1
  have c2 : w1.cell? ⟨b, 2, none⟩ = some (.int .u64 0) := hb1.cell 2
  have c3 : w1.cell? ⟨b, 3, none⟩ = some (.int .u64 x0) := hb1.cell 3
  have f0 := hb1.free 0
  have f1 := hb1.free 1
  have f2 := hb1.free 2
  have f3 := hb1.free 3
  have HB1 : Hid (Blk w1 b 31 (W4 0 0 0 x0)) := hb1
  clear hb1
  go_region
  go_wp2
  go_ret
  exact ⟨rfl, set3 HB1.out hg1⟩

set_option maxRecDepth 100000 in
set_option maxHeartbeats 1000000 in
theorem rshA {b : Nat} {x0 x1 x2 x3 : Int} {w : World} {N : Int} (n1 : 64 ≤ N) (n2 : N < 128) (h : Blk w b 31 (W4 x0 x1 x2 x3)) :
    Calls Try.prog 30 #[.pointer (some ⟨b, 0, none⟩), .pointer (some ⟨b, 0, none⟩), .int .u64 N] w fun e w' => e = .returned (.pointer (some ⟨b, 0, none⟩)) ∧ Blk w' b 31 (W4 (orW (shrW x1 (N - 64).toNat) (shlW x2 (64 - (N - 64)).toNat)) (orW (shrW x2 (N - 64).toNat) (shlW x3 (64 - (N - 64)).toNat)) (shrW x3 (N - 64).toNat) 0) ∧ w.grownBy w' (some b) := by
  have HB : Hid (Blk w b 31 (W4 x0 x1 x2 x3)) := h
  clear h
  go_enter Try.func30, Try.ntmps30
  go_wp2_with (go_at_call 37; refine (rsh64_any HB.out).mono ?_; rintro e w1 ⟨rfl, hb1, hg1⟩)
  have c0 : w1.cell? ⟨b, 0, none⟩ = some (.int .u64 x1) := hb1.cell 0
  have c1 : w1.cell? ⟨b, 1, none⟩ = some (.int .u64 x2) := hb1.cell 1
  have c2 : w1.cell? ⟨b, 2, none⟩ = some (.int .u64 x3) := hb1.cell 2
  have c3 : w1.cell? ⟨b, 3, none⟩ = some (.int .u64 0) := hb1.cell 3
  have f0 := hb1.free 0
  have f1 := hb1.free 1
  have f2 := hb1.free 2
  have f3 := hb1.free 3
  have HB1 : Hid (Blk w1 b 31 (W4 x1 x2 x3 0)) := hb1
  clear hb1
  go_region
  go_wp2
  go_region
  go_wp2
  go_region
  go_wp2
  go_ret
  exact ⟨rfl, set012 HB1.out hg1⟩

set_option maxRecDepth 100000 in
set_option maxHeartbeats 1000000 in
theorem rshB {b : Nat} {x0 x1 x2 x3 : Int} {w : World} {N : Int} (n1 : 128 ≤ N) (n2 : N < 192) (h : Blk w b 31 (W4 x0 x1 x2 x3)) :
    Calls Try.prog 30 #[.pointer (some ⟨b, 0, none⟩), .pointer (some ⟨b, 0, none⟩), .int .u64 N] w fun e w' => e = .returned (.pointer (some ⟨b, 0, none⟩)) ∧ Blk w' b 31 (W4 (orW (shrW x2 (N - 128).toNat) (shlW x3 (64 - (N - 128)).toNat)) (shrW x3 (N - 128).toNat) 0 0) ∧ w.grownBy w' (some b) := by
  have HB : Hid (Blk w b 31 (W4 x0 x1 x2 x3)) := h
  clear h
  go_enter Try.func30, Try.ntmps30
  go_wp2_with (go_at_call 36; refine (rsh128_any HB.out).mono ?_; rintro e w1 ⟨rfl, hb1, hg1⟩)
  have c0 : w1.cell? ⟨b, 0, none⟩ = some (.int .u64 x2) := hb1.cell 0
  have c1 : w1.cell? ⟨b, 1, none⟩ = some (.int .u64 x3) := hb1.cell 1
  have c2 : w1.cell? ⟨b, 2, none⟩ = some (.int .u64 0) := hb1.cell 2
  have c3 : w1.cell? ⟨b, 3, none⟩ = some (.int .u64 0) := hb1.cell 3
  have f0 := hb1.free 0
  have f1 := hb1.free 1
  have f2 := hb1.free 2
  have f3 := hb1.free 3
  have HB1 : Hid (Blk w1 b 31 (W4 x2 x3 0 0)) := hb1
  clear hb1
  go_region
  go_wp2
  go_region
  go_wp2
  go_ret
  exact ⟨rfl, set01 HB1.out hg1⟩

set_option maxRecDepth 100000 in
set_option maxHeartbeats 1000000 in
theorem rshC {b : Nat} {x0 x1 x2 x3 : Int} {w : World} {N : Int} (n1 : 192 ≤ N) (n2 : N < 256) (h : Blk w b 31 (W4 x0 x1 x2 x3)) :
    Calls Try.prog 30 #[.pointer (some ⟨b, 0, none⟩), .pointer (some ⟨b, 0, none⟩), .int .u64 N] w fun e w' => e = .returned (.pointer (some ⟨b, 0, none⟩)) ∧ Blk w' b 31 (W4 (shrW x3 (N - 192).toNat) 0 0 0) ∧ w.grownBy w' (some b) := by
  have HB : Hid (Blk w b 31 (W4 x0 x1 x2 x3)) := h
  clear h
  go_enter Try.func30, Try.ntmps30
  go_wp2_with (go_at_call 35; refine (rsh192_any HB.out).mono ?_; rintro e w1 ⟨rfl, hb1, hg1⟩)
  have c0 : w1.cell? ⟨b, 0, none⟩ = some (.int .u64 x3) := hb1.cell 0
  have c1 : w1.cell? ⟨b, 1, none⟩ = some (.int .u64 0) := hb1.cell 1
  have c2 : w1.cell? ⟨b, 2, none⟩ = some (.int .u64 0) := hb1.cell 2
  have c3 : w1.cell? ⟨b, 3, none⟩ = some (.int .u64 0) := hb1.cell 3
  have f0 := hb1.free 0
  have f1 := hb1.free 1
  have f2 := hb1.free 2
  have f3 := hb1.free 3
  have HB1 : Hid (Blk w1 b 31 (W4 x3 0 0 0)) := hb1
  clear hb1
  go_region
  go_wp2
  go_ret
  exact ⟨rfl, set0 HB1.out hg1⟩

end Go.Proofs.Qxb6614289a
