/-
  DERIVED. GIVEN WITH THE SEED: THE CARDS: each row of Qxb6614385aFmtRows.lean that lists a variable, with what it lists TIED to the program's text (the seventh form; the later family's looks); each row that meets fmt, with fmt's text TOLD by the authors' own Lean function (tested against real Go, not proved from fmt's source: count such statements apart). THE CARD IS WHAT COUNTS. Prove the row's statement (the work); the ties are given (Qxb6614385aFmtTie.lean); close each card by the builder's one call (the guide's Derived/Test/ToyasCard.lean, 'card_holds'). Laid BY PROGRAM, IN A SANDBOX (cutbox-door.mjs). By AI agents, Wed Nov 11 2026. No macro, syntax, notation, axiom, sorry.
-/
import Derived.Test.Qxb6614385aFmtRows
import GoSem.ClaimSeven
namespace Go.Proofs.Qxb6614385aFmt
namespace Rows

/-- THE TOLD CARD OF 'zzlaws_internal_tool_b1.FnArgsBoolPutThenGet'. -/
def fnArgsBoolPutThenGetCard : Claim7 := { stood := { row := fnArgsBoolPutThenGetRow, standIns := [], harness := (true, "98ddfbe2f957921afb8b2194d4799395d3e61ab2c605f7370a7b69bbe82c7671"), looks := true }, told := true, goes := false }
def FnArgsBoolPutThenGetToldSaid : Prop := Claim7.holds Tryf.pinned (.plain (OpenSpec.ofChange fnArgsBoolPutThenGetSpec)) fnArgsBoolPutThenGetCard
/-- ITS FALSE NEIGHBOUR. Refute it at one input. -/
def FnArgsBoolPutThenGetToldWrongFalsely : Prop := Claim7.holds Tryf.pinned (.plain (OpenSpec.ofChange fnArgsBoolPutThenGetWrong)) fnArgsBoolPutThenGetCard

/-- THE TOLD CARD OF 'zzlaws_internal_tool_b1.FnArgsBoolReadsOnlyItsName'. -/
def fnArgsBoolReadsOnlyItsNameCard : Claim7 := { stood := { row := fnArgsBoolReadsOnlyItsNameRow, standIns := [], harness := (true, "98ddfbe2f957921afb8b2194d4799395d3e61ab2c605f7370a7b69bbe82c7671"), looks := true }, told := true, goes := false }
def FnArgsBoolReadsOnlyItsNameToldSaid : Prop := Claim7.holds Tryf.pinned (.plain (OpenSpec.ofChange fnArgsBoolReadsOnlyItsNameSpec)) fnArgsBoolReadsOnlyItsNameCard
/-- ITS FALSE NEIGHBOUR. Refute it at one input. -/
def FnArgsBoolReadsOnlyItsNameToldWrongFalsely : Prop := Claim7.holds Tryf.pinned (.plain (OpenSpec.ofChange fnArgsBoolReadsOnlyItsNameWrong)) fnArgsBoolReadsOnlyItsNameCard

/-- THE TOLD AND TIED CARD OF 'zzlaws_internal_tool_b1.FnPathArgCleansOnceForAll'. -/
def fnPathArgCleansOnceForAllCard : Claim7 := { stood := { row := fnPathArgCleansOnceForAllRow, standIns := [], harness := (true, "98ddfbe2f957921afb8b2194d4799395d3e61ab2c605f7370a7b69bbe82c7671"), looks := true }, told := true, laidByText := true, laidKinds := [.sentinel], laidTests := true, laidLooks := .later, goes := false }
def FnPathArgCleansOnceForAllToldSaid : Prop := Claim7.holds Tryf.pinned (.plain (OpenSpec.ofChange fnPathArgCleansOnceForAllSpec)) fnPathArgCleansOnceForAllCard
/-- ITS FALSE NEIGHBOUR. Refute it at one input. -/
def FnPathArgCleansOnceForAllToldWrongFalsely : Prop := Claim7.holds Tryf.pinned (.plain (OpenSpec.ofChange fnPathArgCleansOnceForAllWrong)) fnPathArgCleansOnceForAllCard
end Rows
end Go.Proofs.Qxb6614385aFmt
