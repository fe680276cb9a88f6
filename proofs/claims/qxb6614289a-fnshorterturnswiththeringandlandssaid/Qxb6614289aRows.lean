/-
  No cell of these rows narrows 'for every input' (looked for: loops, veiled, ifaces, maps, wideKeys, modest, calm, conditions, laid).
  DERIVED. THE GIVEN ROWS OF THIS SEAT. 3 by the template 'for every input the law returns true; each argument reads behind the call as it read before'; 0 by the template 'total and deterministic' (their statements: Qxb6614289aTotals.lean).
  GIVEN WITH THE SEED: the statements are not yours to turn. If you find one false, say at which input.
  Laid BY PROGRAM, IN A SANDBOX (cutbox-rows.mjs): the forced cells as the released guide's own fill.sh prints them over the translation 687418e75f509a10… (all of the seat's roots in one cut). By AI agents, Wed Nov 11 2026. No macro, syntax, notation, axiom, sorry.
-/
import Derived.Test.Qxb6614289aChecked
import GoSem.Claim
import GoSem.ClaimJoined
import GoSem.ClaimMapViews
import Derived.JoinedTies
import Derived.KernelRfl
namespace Go.Proofs.Qxb6614289a
/- THE CELL 'sum', in the pinned program and in every row, IS THE sha256 OF THE DUMP (.gsa) THAT Qxb6614289aProg.lean LOADS. Nothing in Lean hashes anything: it is a label: what it is worth is what the hold of that sum in a sandbox is worth. -/
noncomputable def Try.pinned : Pinned := { name := "qxb6614289a", sum := "687418e75f509a1055f04ce550c3513efa00a9da392ba97392ecbec6a418f969", checked := Try.checked }
namespace Rows
def none {H : Type} : Left H := { results := [], args := [] }

/-- 'zzlaws_root_b1.FnAddUndoesArcsBothWays': WHATEVER THE INPUT: true; the input reads as it did. -/
def fnAddUndoesArcsBothWaysSpec : ChangeSpec := { name := "fnAddUndoesArcsBothWays", fn := fun _ => fun
  | [d1, d2, d3] => { results := [.lit (.bool true)], args := [d1, d2, d3] }
  | _ => none }
def fnAddUndoesArcsBothWaysRow : OpenClaim := { program := "qxb6614289a", sum := "687418e75f509a1055f04ce550c3513efa00a9da392ba97392ecbec6a418f969", func := "example.com/ringhop/ringhop/zzlaws_root_b1.FnAddUndoesArcsBothWays", spec := "fnAddUndoesArcsBothWays", inPlace := ["math/bits.Sub64", "math/bits.Add64"], apart := false }
def FnAddUndoesArcsBothWaysSaid : Prop := fnAddUndoesArcsBothWaysRow.holds Try.pinned (OpenSpec.ofChange fnAddUndoesArcsBothWaysSpec)

/-- ITS FALSE NEIGHBOUR: 'it returns false'. Refute it at one input. -/
def fnAddUndoesArcsBothWaysWrong : ChangeSpec := { name := "fnAddUndoesArcsBothWays", fn := fun _ => fun
  | [d1, d2, d3] => { results := [.lit (.bool false)], args := [d1, d2, d3] }
  | _ => none }
def FnAddUndoesArcsBothWaysWrongFalsely : Prop := fnAddUndoesArcsBothWaysRow.holds Try.pinned (OpenSpec.ofChange fnAddUndoesArcsBothWaysWrong)

/-- 'zzlaws_root_b1.FnShorterIsPastHalfRingAndFlips': WHATEVER THE INPUT: true; the input reads as it did. -/
def fnShorterIsPastHalfRingAndFlipsSpec : ChangeSpec := { name := "fnShorterIsPastHalfRingAndFlips", fn := fun _ => fun
  | [d1, d2, d3] => { results := [.lit (.bool true)], args := [d1, d2, d3] }
  | _ => none }
def fnShorterIsPastHalfRingAndFlipsRow : OpenClaim := { program := "qxb6614289a", sum := "687418e75f509a1055f04ce550c3513efa00a9da392ba97392ecbec6a418f969", func := "example.com/ringhop/ringhop/zzlaws_root_b1.FnShorterIsPastHalfRingAndFlips", spec := "fnShorterIsPastHalfRingAndFlips", inPlace := ["math/bits.Sub64"], apart := false }
def FnShorterIsPastHalfRingAndFlipsSaid : Prop := fnShorterIsPastHalfRingAndFlipsRow.holds Try.pinned (OpenSpec.ofChange fnShorterIsPastHalfRingAndFlipsSpec)

/-- ITS FALSE NEIGHBOUR: 'it returns false'. Refute it at one input. -/
def fnShorterIsPastHalfRingAndFlipsWrong : ChangeSpec := { name := "fnShorterIsPastHalfRingAndFlips", fn := fun _ => fun
  | [d1, d2, d3] => { results := [.lit (.bool false)], args := [d1, d2, d3] }
  | _ => none }
def FnShorterIsPastHalfRingAndFlipsWrongFalsely : Prop := fnShorterIsPastHalfRingAndFlipsRow.holds Try.pinned (OpenSpec.ofChange fnShorterIsPastHalfRingAndFlipsWrong)

/-- 'zzlaws_root_b1.FnShorterTurnsWithTheRingAndLands': WHATEVER THE INPUT: true; the input reads as it did. -/
def fnShorterTurnsWithTheRingAndLandsSpec : ChangeSpec := { name := "fnShorterTurnsWithTheRingAndLands", fn := fun _ => fun
  | [d1, d2, d3, d4] => { results := [.lit (.bool true)], args := [d1, d2, d3, d4] }
  | _ => none }
def fnShorterTurnsWithTheRingAndLandsRow : OpenClaim := { program := "qxb6614289a", sum := "687418e75f509a1055f04ce550c3513efa00a9da392ba97392ecbec6a418f969", func := "example.com/ringhop/ringhop/zzlaws_root_b1.FnShorterTurnsWithTheRingAndLands", spec := "fnShorterTurnsWithTheRingAndLands", inPlace := ["math/bits.Sub64", "math/bits.Add64"], apart := false }
def FnShorterTurnsWithTheRingAndLandsSaid : Prop := fnShorterTurnsWithTheRingAndLandsRow.holds Try.pinned (OpenSpec.ofChange fnShorterTurnsWithTheRingAndLandsSpec)

/-- ITS FALSE NEIGHBOUR: 'it returns false'. Refute it at one input. -/
def fnShorterTurnsWithTheRingAndLandsWrong : ChangeSpec := { name := "fnShorterTurnsWithTheRingAndLands", fn := fun _ => fun
  | [d1, d2, d3, d4] => { results := [.lit (.bool false)], args := [d1, d2, d3, d4] }
  | _ => none }
def FnShorterTurnsWithTheRingAndLandsWrongFalsely : Prop := fnShorterTurnsWithTheRingAndLandsRow.holds Try.pinned (OpenSpec.ofChange fnShorterTurnsWithTheRingAndLandsWrong)

end Rows
end Go.Proofs.Qxb6614289a
