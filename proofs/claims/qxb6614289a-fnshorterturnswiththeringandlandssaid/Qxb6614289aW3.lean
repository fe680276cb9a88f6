/-
  Seat b6614289a: uint256's Sub, Add and Cmp.
-/
import Derived.Test.Qxb6614289aW2
namespace Go.Proofs.Qxb6614289a
open Go.RowKit

theorem set4u {w : World} {b : Nat} {x0 x1 x2 x3 v0 v1 v2 v3 : Int} (h : Blk w b 31 (W4 x0 x1 x2 x3)) :
    Blk ((((w.setCell ⟨b, 0, none⟩ (.int .u64 v0)).setCell ⟨b, 1, none⟩ (.int .u64 v1)).setCell ⟨b, 2, none⟩ (.int .u64 v2)).setCell ⟨b, 3, none⟩ (.int .u64 v3)).drew.drew.drew.drew b 31 (W4 v0 v1 v2 v3) ∧
      w.grownBy ((((w.setCell ⟨b, 0, none⟩ (.int .u64 v0)).setCell ⟨b, 1, none⟩ (.int .u64 v1)).setCell ⟨b, 2, none⟩ (.int .u64 v2)).setCell ⟨b, 3, none⟩ (.int .u64 v3)).drew.drew.drew.drew (some b) :=
  ⟨((((((((h.set 0 _).set 1 _).set 2 _).set 3 _)).drew).drew).drew).drew, (((((grown_set w b 0 _).trans (grown_set _ b 1 _)).trans (grown_set _ b 2 _)).trans (grown_set _ b 3 _)).trans (((grown_drew _ _).trans (grown_drew _ _)).trans ((grown_drew _ _).trans (grown_drew _ _))))⟩

set_option maxRecDepth 100000 in
set_option maxHeartbeats 1000000 in
theorem isub_any {z a b : Nat} {x0 x1 x2 x3 y0 y1 y2 y3 : Int} {w : World} (_hza : a ≠ z) (_hzb : b ≠ z) (hz : Blk w z 31 (W4 0 0 0 0)) (ha : Blk w a 31 (W4 x0 x1 x2 x3)) (hb : Blk w b 31 (W4 y0 y1 y2 y3))
    (g0 : Word x0) (g1 : Word x1) (g2 : Word x2) (g3 : Word x3) (k0 : Word y0) (k1 : Word y1) (k2 : Word y2) (k3 : Word y3) :
    Calls Try.prog 21 #[.pointer (some ⟨z, 0, none⟩), .pointer (some ⟨a, 0, none⟩), .pointer (some ⟨b, 0, none⟩)] w fun e w' => e = .returned (.pointer (some ⟨z, 0, none⟩)) ∧
      Blk w' z 31 (W4 (sW x0 y0 0) (sW x1 y1 (bW x0 y0 0)) (sW x2 y2 (bW x1 y1 (bW x0 y0 0))) (sW x3 y3 (bW x2 y2 (bW x1 y1 (bW x0 y0 0))))) ∧ w.grownBy w' (some z) := by
  have HZ : Hid (Blk w z 31 (W4 0 0 0 0)) := hz
  have c0 : w.cell? ⟨a, 0, none⟩ = some (.int .u64 x0) := ha.cell 0
  have c1 : w.cell? ⟨a, 1, none⟩ = some (.int .u64 x1) := ha.cell 1
  have c2 : w.cell? ⟨a, 2, none⟩ = some (.int .u64 x2) := ha.cell 2
  have c3 : w.cell? ⟨a, 3, none⟩ = some (.int .u64 x3) := ha.cell 3
  have d0 : w.cell? ⟨b, 0, none⟩ = some (.int .u64 y0) := hb.cell 0
  have d1 : w.cell? ⟨b, 1, none⟩ = some (.int .u64 y1) := hb.cell 1
  have d2 : w.cell? ⟨b, 2, none⟩ = some (.int .u64 y2) := hb.cell 2
  have d3 : w.cell? ⟨b, 3, none⟩ = some (.int .u64 y3) := hb.cell 3
  have e0 : w.cell? ⟨z, 0, none⟩ = some (.int .u64 0) := hz.cell 0
  have e1 : w.cell? ⟨z, 1, none⟩ = some (.int .u64 0) := hz.cell 1
  have e2 : w.cell? ⟨z, 2, none⟩ = some (.int .u64 0) := hz.cell 2
  have e3 : w.cell? ⟨z, 3, none⟩ = some (.int .u64 0) := hz.cell 3
  have f0 := hz.free 0
  have f1 := hz.free 1
  have f2 := hz.free 2
  have f3 := hz.free 3
  have s0 := sub64 g0 k0 bit_0
  have s1 := sub64 g1 k1 (bit_bW x0 y0 0)
  have s2 := sub64 g2 k2 (bit_bW x1 y1 (bW x0 y0 0))
  have s3 := sub64 g3 k3 (bit_bW x2 y2 (bW x1 y1 (bW x0 y0 0)))
  clear hz ha hb g0 g1 g2 g3 k0 k1 k2 k3
  go_enter Try.func21, Try.ntmps21
  go_wp2
  go_region
  go_wp2
  go_region
  go_wp2
  go_region
  go_wp2
  go_region
  go_wp2
  go_ret
  exact ⟨rfl, set4u HZ.out⟩

set_option maxRecDepth 100000 in
set_option maxHeartbeats 1000000 in
theorem iadd_any {z a b : Nat} {x0 x1 x2 x3 y0 y1 y2 y3 : Int} {w : World} (_hza : a ≠ z) (_hzb : b ≠ z) (hz : Blk w z 31 (W4 0 0 0 0)) (ha : Blk w a 31 (W4 x0 x1 x2 x3)) (hb : Blk w b 31 (W4 y0 y1 y2 y3))
    (g0 : Word x0) (g1 : Word x1) (g2 : Word x2) (g3 : Word x3) (k0 : Word y0) (k1 : Word y1) (k2 : Word y2) (k3 : Word y3) :
    Calls Try.prog 23 #[.pointer (some ⟨z, 0, none⟩), .pointer (some ⟨a, 0, none⟩), .pointer (some ⟨b, 0, none⟩)] w fun e w' => e = .returned (.pointer (some ⟨z, 0, none⟩)) ∧
      Blk w' z 31 (W4 (aW x0 y0 0) (aW x1 y1 (cW x0 y0 0)) (aW x2 y2 (cW x1 y1 (cW x0 y0 0))) (aW x3 y3 (cW x2 y2 (cW x1 y1 (cW x0 y0 0))))) ∧ w.grownBy w' (some z) := by
  have HZ : Hid (Blk w z 31 (W4 0 0 0 0)) := hz
  have c0 : w.cell? ⟨a, 0, none⟩ = some (.int .u64 x0) := ha.cell 0
  have c1 : w.cell? ⟨a, 1, none⟩ = some (.int .u64 x1) := ha.cell 1
  have c2 : w.cell? ⟨a, 2, none⟩ = some (.int .u64 x2) := ha.cell 2
  have c3 : w.cell? ⟨a, 3, none⟩ = some (.int .u64 x3) := ha.cell 3
  have d0 : w.cell? ⟨b, 0, none⟩ = some (.int .u64 y0) := hb.cell 0
  have d1 : w.cell? ⟨b, 1, none⟩ = some (.int .u64 y1) := hb.cell 1
  have d2 : w.cell? ⟨b, 2, none⟩ = some (.int .u64 y2) := hb.cell 2
  have d3 : w.cell? ⟨b, 3, none⟩ = some (.int .u64 y3) := hb.cell 3
  have e0 : w.cell? ⟨z, 0, none⟩ = some (.int .u64 0) := hz.cell 0
  have e1 : w.cell? ⟨z, 1, none⟩ = some (.int .u64 0) := hz.cell 1
  have e2 : w.cell? ⟨z, 2, none⟩ = some (.int .u64 0) := hz.cell 2
  have e3 : w.cell? ⟨z, 3, none⟩ = some (.int .u64 0) := hz.cell 3
  have f0 := hz.free 0
  have f1 := hz.free 1
  have f2 := hz.free 2
  have f3 := hz.free 3
  have s0 := add64 g0 k0 bit_0
  have s1 := add64 g1 k1 (bit_cW g0 k0 bit_0)
  have s2 := add64 g2 k2 (bit_cW g1 k1 (bit_cW g0 k0 bit_0))
  have s3 := add64 g3 k3 (bit_cW g2 k2 (bit_cW g1 k1 (bit_cW g0 k0 bit_0)))
  clear hz ha hb g0 g1 g2 g3 k0 k1 k2 k3
  go_enter Try.func23, Try.ntmps23
  go_wp2
  go_region
  go_wp2
  go_region
  go_wp2
  go_region
  go_wp2
  go_region
  go_wp2
  go_ret
  exact ⟨rfl, set4u HZ.out⟩

theorem grown_drew4 (w : World) (row : Option Nat) : w.grownBy w.drew.drew.drew.drew row := ((grown_drew w row).trans (grown_drew _ _)).trans ((grown_drew _ _).trans (grown_drew _ _))

/-- The call returns an int that is not negative. -/
def NotNeg (e : Ending) : Prop := ∃ r : Int, 0 ≤ r ∧ e = .returned (.int .i64 r)

set_option maxRecDepth 100000 in
set_option maxHeartbeats 1000000 in
theorem cmp_lt {a b : Nat} {x0 x1 x2 x3 y0 y1 y2 y3 : Int} {w : World} (ha : Blk w a 31 (W4 x0 x1 x2 x3)) (hb : Blk w b 31 (W4 y0 y1 y2 y3))
    (g0 : Word x0) (g1 : Word x1) (g2 : Word x2) (g3 : Word x3) (k0 : Word y0) (k1 : Word y1) (k2 : Word y2) (k3 : Word y3) (_hbeta : ((bW x3 y3 (bW x2 y2 (bW x1 y1 (bW x0 y0 0)))) == 1) = true) :
    Calls Try.prog 24 #[.pointer (some ⟨a, 0, none⟩), .pointer (some ⟨b, 0, none⟩)] w fun e w' => e = .returned (.int .i64 (-1)) ∧ w.grownBy w' none := by
  have c0 : w.cell? ⟨a, 0, none⟩ = some (.int .u64 x0) := ha.cell 0
  have c1 : w.cell? ⟨a, 1, none⟩ = some (.int .u64 x1) := ha.cell 1
  have c2 : w.cell? ⟨a, 2, none⟩ = some (.int .u64 x2) := ha.cell 2
  have c3 : w.cell? ⟨a, 3, none⟩ = some (.int .u64 x3) := ha.cell 3
  have d0 : w.cell? ⟨b, 0, none⟩ = some (.int .u64 y0) := hb.cell 0
  have d1 : w.cell? ⟨b, 1, none⟩ = some (.int .u64 y1) := hb.cell 1
  have d2 : w.cell? ⟨b, 2, none⟩ = some (.int .u64 y2) := hb.cell 2
  have d3 : w.cell? ⟨b, 3, none⟩ = some (.int .u64 y3) := hb.cell 3
  have s0 := sub64 g0 k0 bit_0
  have s1 := sub64 g1 k1 (bit_bW x0 y0 0)
  have s2 := sub64 g2 k2 (bit_bW x1 y1 (bW x0 y0 0))
  have s3 := sub64 g3 k3 (bit_bW x2 y2 (bW x1 y1 (bW x0 y0 0)))
  clear ha hb g0 g1 g2 g3 k0 k1 k2 k3
  go_enter Try.func24, Try.ntmps24
  go_wp2
  go_region
  go_wp2
  go_region
  go_wp2
  go_region
  go_wp2
  go_region
  go_wp2
  go_ret
  exact ⟨rfl, grown_drew4 _ _⟩

set_option maxRecDepth 100000 in
set_option maxHeartbeats 1000000 in
theorem cmp_ge {a b : Nat} {x0 x1 x2 x3 y0 y1 y2 y3 : Int} {w : World} (ha : Blk w a 31 (W4 x0 x1 x2 x3)) (hb : Blk w b 31 (W4 y0 y1 y2 y3))
    (g0 : Word x0) (g1 : Word x1) (g2 : Word x2) (g3 : Word x3) (k0 : Word y0) (k1 : Word y1) (k2 : Word y2) (k3 : Word y3) (_hbeta : ((bW x3 y3 (bW x2 y2 (bW x1 y1 (bW x0 y0 0)))) == 1) = false) :
    Calls Try.prog 24 #[.pointer (some ⟨a, 0, none⟩), .pointer (some ⟨b, 0, none⟩)] w fun e w' => NotNeg e ∧ w.grownBy w' none := by
  have c0 : w.cell? ⟨a, 0, none⟩ = some (.int .u64 x0) := ha.cell 0
  have c1 : w.cell? ⟨a, 1, none⟩ = some (.int .u64 x1) := ha.cell 1
  have c2 : w.cell? ⟨a, 2, none⟩ = some (.int .u64 x2) := ha.cell 2
  have c3 : w.cell? ⟨a, 3, none⟩ = some (.int .u64 x3) := ha.cell 3
  have d0 : w.cell? ⟨b, 0, none⟩ = some (.int .u64 y0) := hb.cell 0
  have d1 : w.cell? ⟨b, 1, none⟩ = some (.int .u64 y1) := hb.cell 1
  have d2 : w.cell? ⟨b, 2, none⟩ = some (.int .u64 y2) := hb.cell 2
  have d3 : w.cell? ⟨b, 3, none⟩ = some (.int .u64 y3) := hb.cell 3
  have s0 := sub64 g0 k0 bit_0
  have s1 := sub64 g1 k1 (bit_bW x0 y0 0)
  have s2 := sub64 g2 k2 (bit_bW x1 y1 (bW x0 y0 0))
  have s3 := sub64 g3 k3 (bit_bW x2 y2 (bW x1 y1 (bW x0 y0 0)))
  clear ha hb g0 g1 g2 g3 k0 k1 k2 k3
  go_enter Try.func24, Try.ntmps24
  go_wp2
  go_region
  go_wp2
  go_region
  go_wp2
  go_region
  go_wp2
  go_region
  go_wp2
  · go_ret
    exact ⟨⟨0, by decide, rfl⟩, grown_drew4 _ _⟩
  · go_ret
    exact ⟨⟨1, by decide, rfl⟩, grown_drew4 _ _⟩

end Go.Proofs.Qxb6614289a
