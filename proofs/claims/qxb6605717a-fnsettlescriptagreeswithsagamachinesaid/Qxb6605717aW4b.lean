/-
  Seat b6605717a: the law beyond its own bounds.
-/
import Derived.Test.Qxb6605717aW4
namespace Go.Proofs.Qxb6605717a
open Go.RowKit

set_option maxRecDepth 100000 in
set_option maxHeartbeats 1600000 in
theorem law_e1 {w : World} {a1 a2 : Option Addr} {n c1 m c2 : Nat} (l1 : n ≤ 140737488351232) (l2 : m ≤ 140737488351232) (hn : ¬ n ≤ 4096) :
    Calls Try.prog 3 #[.slice a1 n c1, .slice a2 m c2] w fun e w' => e = .returned (.bool true) ∧ Below w.heap.size w w' := by
  go_enter Try.func3, Try.ntmps3
  go_wp2_with (first
    | (go_at_call 4; refine (zzb_any l1 l2).mono ?_; rintro e w' ⟨⟨r, rfl⟩, hw⟩; obtain rfl := hw.symm))
  all_goals (go_ret; exact ⟨rfl, Below.refl _ _⟩)

set_option maxRecDepth 100000 in
set_option maxHeartbeats 1600000 in
theorem law_e2 {w : World} {a1 a2 : Option Addr} {n c1 m c2 : Nat} (l1 : n ≤ 140737488351232) (l2 : m ≤ 140737488351232) (hn : n ≤ 4096) (hm : ¬ m ≤ 4096) :
    Calls Try.prog 3 #[.slice a1 n c1, .slice a2 m c2] w fun e w' => e = .returned (.bool true) ∧ Below w.heap.size w w' := by
  go_enter Try.func3, Try.ntmps3
  go_wp2_with (first
    | (go_at_call 4; refine (zzb_any l1 l2).mono ?_; rintro e w' ⟨⟨r, rfl⟩, hw⟩; obtain rfl := hw.symm))
  all_goals (go_ret; exact ⟨rfl, Below.refl _ _⟩)

end Go.Proofs.Qxb6605717a
