/-
  No cell of these rows narrows 'for every input' (looked for: loops, veiled, ifaces, maps, wideKeys, modest, calm, conditions, laid).
  DERIVED. THE GIVEN ROWS OF THIS SEAT. 1 by the template 'for every input the law returns true; each argument reads behind the call as it read before'; 0 by the template 'total and deterministic' (their statements: Qxb6605717aTotals.lean).
  GIVEN WITH THE SEED: the statements are not yours to turn. If you find one false, say at which input.
  Laid BY PROGRAM, IN A SANDBOX (cutbox-rows.mjs): the forced cells as the released guide's own fill.sh prints them over the translation 778221980b2df5e1… (all of the seat's roots in one cut). By AI agents, Wed Nov 11 2026. No macro, syntax, notation, axiom, sorry.
-/
import Derived.Test.Qxb6605717aChecked
import GoSem.Claim
import GoSem.ClaimJoined
import GoSem.ClaimMapViews
import Derived.JoinedTies
import Derived.KernelRfl
namespace Go.Proofs.Qxb6605717a
/- THE CELL 'sum', in the pinned program and in every row, IS THE sha256 OF THE DUMP (.gsa) THAT Qxb6605717aProg.lean LOADS. Nothing in Lean hashes anything: it is a label: what it is worth is what the hold of that sum in a sandbox is worth. -/
noncomputable def Try.pinned : Pinned := { name := "qxb6605717a", sum := "778221980b2df5e119b9899821181c87e8a29d32adb8f7db7ffb1b3e74ca3fd4", checked := Try.checked }
namespace Rows
def none {H : Type} : Left H := { results := [], args := [] }

/-- 'zzlaws_saga_b1.FnSettleScriptAgreesWithSagaMachine': WHATEVER THE INPUT: true; the input reads as it did. -/
def fnSettleScriptAgreesWithSagaMachineSpec : ChangeSpec := { name := "fnSettleScriptAgreesWithSagaMachine", fn := fun _ => fun
  | [d1, d2] => { results := [.lit (.bool true)], args := [d1, d2] }
  | _ => none }
def fnSettleScriptAgreesWithSagaMachineRow : OpenClaim := { program := "qxb6605717a", sum := "778221980b2df5e119b9899821181c87e8a29d32adb8f7db7ffb1b3e74ca3fd4", func := "example.com/amends/amends/zzlaws_saga_b1.FnSettleScriptAgreesWithSagaMachine", spec := "fnSettleScriptAgreesWithSagaMachine", apart := false }
def FnSettleScriptAgreesWithSagaMachineSaid : Prop := fnSettleScriptAgreesWithSagaMachineRow.holds Try.pinned (OpenSpec.ofChange fnSettleScriptAgreesWithSagaMachineSpec)

/-- ITS FALSE NEIGHBOUR: 'it returns false'. Refute it at one input. -/
def fnSettleScriptAgreesWithSagaMachineWrong : ChangeSpec := { name := "fnSettleScriptAgreesWithSagaMachine", fn := fun _ => fun
  | [d1, d2] => { results := [.lit (.bool false)], args := [d1, d2] }
  | _ => none }
def FnSettleScriptAgreesWithSagaMachineWrongFalsely : Prop := fnSettleScriptAgreesWithSagaMachineRow.holds Try.pinned (OpenSpec.ofChange fnSettleScriptAgreesWithSagaMachineWrong)

end Rows
end Go.Proofs.Qxb6605717a
