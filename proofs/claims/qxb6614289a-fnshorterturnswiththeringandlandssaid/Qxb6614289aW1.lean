/-
  Seat b6614289a: the six word shifts of uint256 where target and source are one.
-/
import Derived.Test.Qxb6614289aBase
namespace Go.Proofs.Qxb6614289a
open Go.RowKit

set_option maxHeartbeats 1000000 in
theorem lsh192_any {b : Nat} {x0 x1 x2 x3 : Int} {w : World} (h : Blk w b 31 (W4 x0 x1 x2 x3)) :
    Calls Try.prog 32 #[.pointer (some ⟨b, 0, none⟩), .pointer (some ⟨b, 0, none⟩)] w fun e w' => e = .returned (.pointer (some ⟨b, 0, none⟩)) ∧ Blk w' b 31 (W4 0 0 0 x0) ∧ w.grownBy w' (some b) := by
  have c0 : w.cell? ⟨b, 0, none⟩ = some (.int .u64 x0) := h.cell 0
  have c1 : w.cell? ⟨b, 1, none⟩ = some (.int .u64 x1) := h.cell 1
  have c2 : w.cell? ⟨b, 2, none⟩ = some (.int .u64 x2) := h.cell 2
  have c3 : w.cell? ⟨b, 3, none⟩ = some (.int .u64 x3) := h.cell 3
  have f0 := h.free 0
  have f1 := h.free 1
  have f2 := h.free 2
  have f3 := h.free 3
  have HB : Hid (Blk w b 31 (W4 x0 x1 x2 x3)) := h
  clear h
  go_enter Try.func32, Try.ntmps32
  go_wp2
  go_region
  go_wp2
  go_ret
  have h := HB.out
  exact ⟨rfl, set4 h⟩

set_option maxHeartbeats 1000000 in
theorem lsh128_any {b : Nat} {x0 x1 x2 x3 : Int} {w : World} (h : Blk w b 31 (W4 x0 x1 x2 x3)) :
    Calls Try.prog 33 #[.pointer (some ⟨b, 0, none⟩), .pointer (some ⟨b, 0, none⟩)] w fun e w' => e = .returned (.pointer (some ⟨b, 0, none⟩)) ∧ Blk w' b 31 (W4 0 0 x0 x1) ∧ w.grownBy w' (some b) := by
  have c0 : w.cell? ⟨b, 0, none⟩ = some (.int .u64 x0) := h.cell 0
  have c1 : w.cell? ⟨b, 1, none⟩ = some (.int .u64 x1) := h.cell 1
  have c2 : w.cell? ⟨b, 2, none⟩ = some (.int .u64 x2) := h.cell 2
  have c3 : w.cell? ⟨b, 3, none⟩ = some (.int .u64 x3) := h.cell 3
  have f0 := h.free 0
  have f1 := h.free 1
  have f2 := h.free 2
  have f3 := h.free 3
  have HB : Hid (Blk w b 31 (W4 x0 x1 x2 x3)) := h
  clear h
  go_enter Try.func33, Try.ntmps33
  go_wp2
  go_region
  go_wp2
  go_ret
  have h := HB.out
  exact ⟨rfl, set4 h⟩

set_option maxHeartbeats 1000000 in
theorem lsh64_any {b : Nat} {x0 x1 x2 x3 : Int} {w : World} (h : Blk w b 31 (W4 x0 x1 x2 x3)) :
    Calls Try.prog 34 #[.pointer (some ⟨b, 0, none⟩), .pointer (some ⟨b, 0, none⟩)] w fun e w' => e = .returned (.pointer (some ⟨b, 0, none⟩)) ∧ Blk w' b 31 (W4 0 x0 x1 x2) ∧ w.grownBy w' (some b) := by
  have c0 : w.cell? ⟨b, 0, none⟩ = some (.int .u64 x0) := h.cell 0
  have c1 : w.cell? ⟨b, 1, none⟩ = some (.int .u64 x1) := h.cell 1
  have c2 : w.cell? ⟨b, 2, none⟩ = some (.int .u64 x2) := h.cell 2
  have c3 : w.cell? ⟨b, 3, none⟩ = some (.int .u64 x3) := h.cell 3
  have f0 := h.free 0
  have f1 := h.free 1
  have f2 := h.free 2
  have f3 := h.free 3
  have HB : Hid (Blk w b 31 (W4 x0 x1 x2 x3)) := h
  clear h
  go_enter Try.func34, Try.ntmps34
  go_wp2
  go_region
  go_wp2
  go_ret
  have h := HB.out
  exact ⟨rfl, set4 h⟩

set_option maxHeartbeats 1000000 in
theorem rsh192_any {b : Nat} {x0 x1 x2 x3 : Int} {w : World} (h : Blk w b 31 (W4 x0 x1 x2 x3)) :
    Calls Try.prog 35 #[.pointer (some ⟨b, 0, none⟩), .pointer (some ⟨b, 0, none⟩)] w fun e w' => e = .returned (.pointer (some ⟨b, 0, none⟩)) ∧ Blk w' b 31 (W4 x3 0 0 0) ∧ w.grownBy w' (some b) := by
  have c0 : w.cell? ⟨b, 0, none⟩ = some (.int .u64 x0) := h.cell 0
  have c1 : w.cell? ⟨b, 1, none⟩ = some (.int .u64 x1) := h.cell 1
  have c2 : w.cell? ⟨b, 2, none⟩ = some (.int .u64 x2) := h.cell 2
  have c3 : w.cell? ⟨b, 3, none⟩ = some (.int .u64 x3) := h.cell 3
  have f0 := h.free 0
  have f1 := h.free 1
  have f2 := h.free 2
  have f3 := h.free 3
  have HB : Hid (Blk w b 31 (W4 x0 x1 x2 x3)) := h
  clear h
  go_enter Try.func35, Try.ntmps35
  go_wp2
  go_region
  go_wp2
  go_ret
  have h := HB.out
  exact ⟨rfl, set4 h⟩

set_option maxHeartbeats 1000000 in
theorem rsh128_any {b : Nat} {x0 x1 x2 x3 : Int} {w : World} (h : Blk w b 31 (W4 x0 x1 x2 x3)) :
    Calls Try.prog 36 #[.pointer (some ⟨b, 0, none⟩), .pointer (some ⟨b, 0, none⟩)] w fun e w' => e = .returned (.pointer (some ⟨b, 0, none⟩)) ∧ Blk w' b 31 (W4 x2 x3 0 0) ∧ w.grownBy w' (some b) := by
  have c0 : w.cell? ⟨b, 0, none⟩ = some (.int .u64 x0) := h.cell 0
  have c1 : w.cell? ⟨b, 1, none⟩ = some (.int .u64 x1) := h.cell 1
  have c2 : w.cell? ⟨b, 2, none⟩ = some (.int .u64 x2) := h.cell 2
  have c3 : w.cell? ⟨b, 3, none⟩ = some (.int .u64 x3) := h.cell 3
  have f0 := h.free 0
  have f1 := h.free 1
  have f2 := h.free 2
  have f3 := h.free 3
  have HB : Hid (Blk w b 31 (W4 x0 x1 x2 x3)) := h
  clear h
  go_enter Try.func36, Try.ntmps36
  go_wp2
  go_region
  go_wp2
  go_ret
  have h := HB.out
  exact ⟨rfl, set4 h⟩

set_option maxHeartbeats 1000000 in
theorem rsh64_any {b : Nat} {x0 x1 x2 x3 : Int} {w : World} (h : Blk w b 31 (W4 x0 x1 x2 x3)) :
    Calls Try.prog 37 #[.pointer (some ⟨b, 0, none⟩), .pointer (some ⟨b, 0, none⟩)] w fun e w' => e = .returned (.pointer (some ⟨b, 0, none⟩)) ∧ Blk w' b 31 (W4 x1 x2 x3 0) ∧ w.grownBy w' (some b) := by
  have c0 : w.cell? ⟨b, 0, none⟩ = some (.int .u64 x0) := h.cell 0
  have c1 : w.cell? ⟨b, 1, none⟩ = some (.int .u64 x1) := h.cell 1
  have c2 : w.cell? ⟨b, 2, none⟩ = some (.int .u64 x2) := h.cell 2
  have c3 : w.cell? ⟨b, 3, none⟩ = some (.int .u64 x3) := h.cell 3
  have f0 := h.free 0
  have f1 := h.free 1
  have f2 := h.free 2
  have f3 := h.free 3
  have HB : Hid (Blk w b 31 (W4 x0 x1 x2 x3)) := h
  clear h
  go_enter Try.func37, Try.ntmps37
  go_wp2
  go_region
  go_wp2
  go_ret
  have h := HB.out
  exact ⟨rfl, set4 h⟩

end Go.Proofs.Qxb6614289a
