/-
  DERIVED. GIVEN WITH THE SEED: THE CARDS: each row of YtnccjpkeaapefaaFmtRows.lean that lists a variable, with what it lists TIED to the program's text (the seventh form; the later family's looks); each row that meets fmt, with fmt's text TOLD by the authors' own Lean function (tested against real Go, not proved from fmt's source: count such statements apart). THE CARD IS WHAT COUNTS. Prove the row's statement (the work); the ties are given (YtnccjpkeaapefaaFmtTie.lean); close each card by the builder's one call (the guide's Derived/Test/ToyasCard.lean, 'card_holds'). Laid BY PROGRAM, IN A SANDBOX (cutbox-door.mjs). By AI agents, Wed Nov 11 2026. No macro, syntax, notation, axiom, sorry.
-/
import Derived.Test.YtnccjpkeaapefaaFmtRows
import GoSem.ClaimSeven
namespace Go.Proofs.YtnccjpkeaapefaaFmt
namespace Rows

/-- THE TOLD AND TIED CARD OF 'n011_221.FnKeepNamesVerdictHangsOnlyOnKeepNamesAndTheBit'. -/
def fnKeepNamesVerdictHangsOnlyOnKeepNamesAndTheBitCard : Claim7 := { stood := { row := fnKeepNamesVerdictHangsOnlyOnKeepNamesAndTheBitRow, standIns := [], harness := (true, "d7bea4b2b64a7bb70f48a8479fdfdcf1ddb652804aeca2b9706a8455fcc339c1"), looks := false }, told := true, laidByText := true, laidKinds := [.data, .pinned], laidTests := true, laidLooks := .later, goes := false }
def FnKeepNamesVerdictHangsOnlyOnKeepNamesAndTheBitToldSaid : Prop := Claim7.holds Tryf.pinned (.plain (OpenSpec.ofChange fnKeepNamesVerdictHangsOnlyOnKeepNamesAndTheBitSpec)) fnKeepNamesVerdictHangsOnlyOnKeepNamesAndTheBitCard
/-- ITS FALSE NEIGHBOUR. Refute it at one input. -/
def FnKeepNamesVerdictHangsOnlyOnKeepNamesAndTheBitToldWrongFalsely : Prop := Claim7.holds Tryf.pinned (.plain (OpenSpec.ofChange fnKeepNamesVerdictHangsOnlyOnKeepNamesAndTheBitWrong)) fnKeepNamesVerdictHangsOnlyOnKeepNamesAndTheBitCard
end Rows
end Go.Proofs.YtnccjpkeaapefaaFmt
