/-
  No cell of these rows narrows 'for every input' (looked for: loops, veiled, ifaces, maps, wideKeys, modest, calm, conditions, laid).
  DERIVED. THE GIVEN ROWS OF THIS SEAT. 2 by the template 'for every input the law returns true; each argument reads behind the call as it read before'; 0 by the template 'total and deterministic' (their statements: Qxb6614191aTotals.lean).
  GIVEN WITH THE SEED: the statements are not yours to turn. If you find one false, say at which input.
  Laid BY PROGRAM, IN A SANDBOX (cutbox-rows.mjs): the forced cells as the released guide's own fill.sh prints them over the translation b062d5380dc3aea7… (all of the seat's roots in one cut). By AI agents, Wed Nov 11 2026. No macro, syntax, notation, axiom, sorry.
-/
import Derived.Test.Qxb6614191aChecked
import GoSem.Claim
import GoSem.ClaimJoined
import GoSem.ClaimMapViews
import Derived.JoinedTies
import Derived.KernelRfl
namespace Go.Proofs.Qxb6614191a
/- THE CELL 'sum', in the pinned program and in every row, IS THE sha256 OF THE DUMP (.gsa) THAT Qxb6614191aProg.lean LOADS. Nothing in Lean hashes anything: it is a label: what it is worth is what the hold of that sum in a sandbox is worth. -/
noncomputable def Try.pinned : Pinned := { name := "qxb6614191a", sum := "b062d5380dc3aea7580d3247d4db8553472cedb65b7eabaa176c2fb9eadeed0b", checked := Try.checked }
namespace Rows
def none {H : Type} : Left H := { results := [], args := [] }

/-- 'zzlaws_root_b1.FnMarkOverwrittenMarksExactlyTheUnion': WHATEVER THE INPUT: true; the input reads as it did. -/
def fnMarkOverwrittenMarksExactlyTheUnionSpec : ChangeSpec := { name := "fnMarkOverwrittenMarksExactlyTheUnion", fn := fun _ => fun
  | [d1, d2] => { results := [.lit (.bool true)], args := [d1, d2] }
  | _ => none }
def fnMarkOverwrittenMarksExactlyTheUnionRow : OpenClaim := { program := "qxb6614191a", sum := "b062d5380dc3aea7580d3247d4db8553472cedb65b7eabaa176c2fb9eadeed0b", func := "example.com/tideline/tideline/zzlaws_root_b1.FnMarkOverwrittenMarksExactlyTheUnion", spec := "fnMarkOverwrittenMarksExactlyTheUnion", apart := false }
def FnMarkOverwrittenMarksExactlyTheUnionSaid : Prop := fnMarkOverwrittenMarksExactlyTheUnionRow.holds Try.pinned (OpenSpec.ofChange fnMarkOverwrittenMarksExactlyTheUnionSpec)

/-- ITS FALSE NEIGHBOUR: 'it returns false'. Refute it at one input. -/
def fnMarkOverwrittenMarksExactlyTheUnionWrong : ChangeSpec := { name := "fnMarkOverwrittenMarksExactlyTheUnion", fn := fun _ => fun
  | [d1, d2] => { results := [.lit (.bool false)], args := [d1, d2] }
  | _ => none }
def FnMarkOverwrittenMarksExactlyTheUnionWrongFalsely : Prop := fnMarkOverwrittenMarksExactlyTheUnionRow.holds Try.pinned (OpenSpec.ofChange fnMarkOverwrittenMarksExactlyTheUnionWrong)

/-- 'zzlaws_root_b1.FnMarkOverwrittenOrderFree': WHATEVER THE INPUT: true; the input reads as it did. -/
def fnMarkOverwrittenOrderFreeSpec : ChangeSpec := { name := "fnMarkOverwrittenOrderFree", fn := fun _ => fun
  | [d1, d2, d3] => { results := [.lit (.bool true)], args := [d1, d2, d3] }
  | _ => none }
def fnMarkOverwrittenOrderFreeRow : OpenClaim := { program := "qxb6614191a", sum := "b062d5380dc3aea7580d3247d4db8553472cedb65b7eabaa176c2fb9eadeed0b", func := "example.com/tideline/tideline/zzlaws_root_b1.FnMarkOverwrittenOrderFree", spec := "fnMarkOverwrittenOrderFree", apart := false }
def FnMarkOverwrittenOrderFreeSaid : Prop := fnMarkOverwrittenOrderFreeRow.holds Try.pinned (OpenSpec.ofChange fnMarkOverwrittenOrderFreeSpec)

/-- ITS FALSE NEIGHBOUR: 'it returns false'. Refute it at one input. -/
def fnMarkOverwrittenOrderFreeWrong : ChangeSpec := { name := "fnMarkOverwrittenOrderFree", fn := fun _ => fun
  | [d1, d2, d3] => { results := [.lit (.bool false)], args := [d1, d2, d3] }
  | _ => none }
def FnMarkOverwrittenOrderFreeWrongFalsely : Prop := fnMarkOverwrittenOrderFreeRow.holds Try.pinned (OpenSpec.ofChange fnMarkOverwrittenOrderFreeWrong)

end Rows
end Go.Proofs.Qxb6614191a
