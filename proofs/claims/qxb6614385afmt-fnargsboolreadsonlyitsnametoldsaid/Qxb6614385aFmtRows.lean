/-
  NARROWER THAN 'FOR EVERY INPUT', by the rows' own cells (each row's printed sentence says how): FnPathArgCleansOnceForAll: ifaces, laid.
  DERIVED. THE GIVEN ROWS OF THIS SEAT. 3 by the template 'for every input the law returns true; each argument reads behind the call as it read before'; 0 by the template 'total and deterministic' (their statements: Qxb6614385aFmtTotals.lean).
  GIVEN WITH THE SEED: the statements are not yours to turn. If you find one false, say at which input.
  Laid BY PROGRAM, IN A SANDBOX (cutbox-rows.mjs): the forced cells as the released guide's own fill.sh prints them over the translation 8f67920ccfe21563… (all of the seat's roots in one cut). By AI agents, Wed Nov 11 2026. No macro, syntax, notation, axiom, sorry.
-/
import Derived.Test.Qxb6614385aFmtChecked
import GoSem.Claim
import GoSem.ClaimJoined
import GoSem.ClaimMapViews
import Derived.JoinedTies
import Derived.KernelRfl
namespace Go.Proofs.Qxb6614385aFmt
/- THE CELL 'sum', in the pinned program and in every row, IS THE sha256 OF THE DUMP (.gsa) THAT Qxb6614385aFmtProg.lean LOADS. Nothing in Lean hashes anything: it is a label: what it is worth is what the hold of that sum in a sandbox is worth. -/
noncomputable def Tryf.pinned : Pinned := { name := "qxb6614385afmt", sum := "8f67920ccfe2156387d129eb9585bfbef7b30abc6a714a20f8f54b5649cbd174", checked := Tryf.checked }
namespace Rows
def none {H : Type} : Left H := { results := [], args := [] }

/- WHAT THE LISTED PACKAGE-LEVEL VARIABLES READ AS WHEN THE CALL BEGINS. Each datum BY PROGRAM (the guide's laid-datum.mjs) off the statement by which the dump's own 'gosem.cut.vars' lays the variable. In a bare row this is a premise. The card (Qxb6614385aFmtCards.lean) ties it to the program's text. -/
def laid_example_com_cormorant_cormorant_internal_tool_errEmptyPath {H : Type} : DataW H := .iface "*errors.errorString" (.ptr (.agg [.lit (.string [112, 97, 116, 104, 32, 105, 115, 32, 101, 109, 112, 116, 121])]))

/-- 'zzlaws_internal_tool_b1.FnArgsBoolPutThenGet': WHATEVER THE INPUT: true; the input reads as it did. -/
def fnArgsBoolPutThenGetSpec : ChangeSpec := { name := "fnArgsBoolPutThenGet", fn := fun _ => fun
  | [d1, d2, d3, d4, d5, d6] => { results := [.lit (.bool true)], args := [d1, d2, d3, d4, d5, d6] }
  | _ => none }
def fnArgsBoolPutThenGetRow : OpenClaim := { program := "qxb6614385afmt", sum := "8f67920ccfe2156387d129eb9585bfbef7b30abc6a714a20f8f54b5649cbd174", func := "example.com/cormorant/cormorant/zzlaws_internal_tool_b1.FnArgsBoolPutThenGet", spec := "fnArgsBoolPutThenGet", stops := ["fmt.errorf"], inPlace := ["fmt.errorf"], apart := false }
/-- NO THEOREM (fmt's text is open here; it may be false): for the released tool's asking of the row's closed facts alone. THE STATEMENT IS 'FnArgsBoolPutThenGetToldSaid' (Qxb6614385aFmtCards.lean). -/
def FnArgsBoolPutThenGetFormAsk : Prop := fnArgsBoolPutThenGetRow.holds Tryf.pinned (OpenSpec.ofChange fnArgsBoolPutThenGetSpec)

/-- ITS FALSE NEIGHBOUR: 'it returns false'. Refute it at one input. -/
def fnArgsBoolPutThenGetWrong : ChangeSpec := { name := "fnArgsBoolPutThenGet", fn := fun _ => fun
  | [d1, d2, d3, d4, d5, d6] => { results := [.lit (.bool false)], args := [d1, d2, d3, d4, d5, d6] }
  | _ => none }
def FnArgsBoolPutThenGetWrongFormAsk : Prop := fnArgsBoolPutThenGetRow.holds Tryf.pinned (OpenSpec.ofChange fnArgsBoolPutThenGetWrong)

/-- 'zzlaws_internal_tool_b1.FnArgsBoolReadsOnlyItsName': WHATEVER THE INPUT: true; the input reads as it did. -/
def fnArgsBoolReadsOnlyItsNameSpec : ChangeSpec := { name := "fnArgsBoolReadsOnlyItsName", fn := fun _ => fun
  | [d1, d2, d3, d4, d5, d6, d7, d8] => { results := [.lit (.bool true)], args := [d1, d2, d3, d4, d5, d6, d7, d8] }
  | _ => none }
def fnArgsBoolReadsOnlyItsNameRow : OpenClaim := { program := "qxb6614385afmt", sum := "8f67920ccfe2156387d129eb9585bfbef7b30abc6a714a20f8f54b5649cbd174", func := "example.com/cormorant/cormorant/zzlaws_internal_tool_b1.FnArgsBoolReadsOnlyItsName", spec := "fnArgsBoolReadsOnlyItsName", stops := ["fmt.errorf"], inPlace := ["fmt.errorf"], apart := false }
/-- NO THEOREM (fmt's text is open here; it may be false): for the released tool's asking of the row's closed facts alone. THE STATEMENT IS 'FnArgsBoolReadsOnlyItsNameToldSaid' (Qxb6614385aFmtCards.lean). -/
def FnArgsBoolReadsOnlyItsNameFormAsk : Prop := fnArgsBoolReadsOnlyItsNameRow.holds Tryf.pinned (OpenSpec.ofChange fnArgsBoolReadsOnlyItsNameSpec)

/-- ITS FALSE NEIGHBOUR: 'it returns false'. Refute it at one input. -/
def fnArgsBoolReadsOnlyItsNameWrong : ChangeSpec := { name := "fnArgsBoolReadsOnlyItsName", fn := fun _ => fun
  | [d1, d2, d3, d4, d5, d6, d7, d8] => { results := [.lit (.bool false)], args := [d1, d2, d3, d4, d5, d6, d7, d8] }
  | _ => none }
def FnArgsBoolReadsOnlyItsNameWrongFormAsk : Prop := fnArgsBoolReadsOnlyItsNameRow.holds Tryf.pinned (OpenSpec.ofChange fnArgsBoolReadsOnlyItsNameWrong)

/-- 'zzlaws_internal_tool_b1.FnPathArgCleansOnceForAll': WHATEVER THE INPUT: true; the input reads as it did. -/
def fnPathArgCleansOnceForAllSpec : ChangeSpec := { name := "fnPathArgCleansOnceForAll", vars := ["example.com/cormorant/cormorant/internal/tool.errEmptyPath"], fn := fun _ => fun
  | [d1, d2, d3, d4, g1] => { results := [.lit (.bool true)], args := [d1, d2, d3, d4], vars := [g1] }
  | _ => none }
def fnPathArgCleansOnceForAllRow : OpenClaim := { program := "qxb6614385afmt", sum := "8f67920ccfe2156387d129eb9585bfbef7b30abc6a714a20f8f54b5649cbd174", func := "example.com/cormorant/cormorant/zzlaws_internal_tool_b1.FnPathArgCleansOnceForAll", spec := "fnPathArgCleansOnceForAll", stops := ["fmt.errorf"], inPlace := ["fmt.errorf", "internal/bytealg.IndexByteString"], named := ["example.com/cormorant/cormorant/internal/tool.errEmptyPath"], ifaces := true, apart := false, laid := [("example.com/cormorant/cormorant/internal/tool.errEmptyPath", laid_example_com_cormorant_cormorant_internal_tool_errEmptyPath)] }
/-- NO THEOREM (fmt's text is open here; it may be false): for the released tool's asking of the row's closed facts alone. THE STATEMENT IS 'FnPathArgCleansOnceForAllToldSaid' (Qxb6614385aFmtCards.lean). -/
def FnPathArgCleansOnceForAllFormAsk : Prop := fnPathArgCleansOnceForAllRow.holds Tryf.pinned (OpenSpec.ofChange fnPathArgCleansOnceForAllSpec)

/-- ITS FALSE NEIGHBOUR: 'it returns false'. Refute it at one input. -/
def fnPathArgCleansOnceForAllWrong : ChangeSpec := { name := "fnPathArgCleansOnceForAll", vars := ["example.com/cormorant/cormorant/internal/tool.errEmptyPath"], fn := fun _ => fun
  | [d1, d2, d3, d4, g1] => { results := [.lit (.bool false)], args := [d1, d2, d3, d4], vars := [g1] }
  | _ => none }
def FnPathArgCleansOnceForAllWrongFormAsk : Prop := fnPathArgCleansOnceForAllRow.holds Tryf.pinned (OpenSpec.ofChange fnPathArgCleansOnceForAllWrong)

end Rows
end Go.Proofs.Qxb6614385aFmt
