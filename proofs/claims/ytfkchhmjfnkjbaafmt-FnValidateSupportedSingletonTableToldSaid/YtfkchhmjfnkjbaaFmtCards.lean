/-
  DERIVED. GIVEN WITH THE SEED: THE CARDS: each row of YtfkchhmjfnkjbaaFmtRows.lean that lists a variable, with what it lists TIED to the program's text (the seventh form; the later family's looks); each row that meets fmt, with fmt's text TOLD by the authors' own Lean function (tested against real Go, not proved from fmt's source: count such statements apart). THE CARD IS WHAT COUNTS. Prove the row's statement (the work); the ties are given (YtfkchhmjfnkjbaaFmtTie.lean); close each card by the builder's one call (the guide's Derived/Test/ToyasCard.lean, 'card_holds'). Laid BY PROGRAM, IN A SANDBOX (cutbox-door.mjs). By AI agents, Wed Nov 11 2026. No macro, syntax, notation, axiom, sorry.
-/
import Derived.Test.YtfkchhmjfnkjbaaFmtRows
import GoSem.ClaimSeven
namespace Go.Proofs.YtfkchhmjfnkjbaaFmt
namespace Rows

/-- THE TOLD AND TIED CARD OF 'n011_105.FnValidateSupportedFlipAndKnownNames'. -/
def fnValidateSupportedFlipAndKnownNamesCard : Claim7 := { stood := { row := fnValidateSupportedFlipAndKnownNamesRow, standIns := [], harness := (true, "62f3958e736c237bbb6b436e36776d038193f01a34ca340cb31bf6178de58aed"), looks := false }, told := true, laidByText := true, laidKinds := [.data, .mapped, .mapped, .pinned], laidTests := true, laidLooks := .later, goes := false }
def FnValidateSupportedFlipAndKnownNamesToldSaid : Prop := Claim7.holds Tryf.pinned (.plain (OpenSpec.ofChange fnValidateSupportedFlipAndKnownNamesSpec)) fnValidateSupportedFlipAndKnownNamesCard
/-- ITS FALSE NEIGHBOUR. Refute it at one input. -/
def FnValidateSupportedFlipAndKnownNamesToldWrongFalsely : Prop := Claim7.holds Tryf.pinned (.plain (OpenSpec.ofChange fnValidateSupportedFlipAndKnownNamesWrong)) fnValidateSupportedFlipAndKnownNamesCard

/-- THE TOLD AND TIED CARD OF 'n011_105.FnValidateSupportedSingletonTable'. -/
def fnValidateSupportedSingletonTableCard : Claim7 := { stood := { row := fnValidateSupportedSingletonTableRow, standIns := [], harness := (true, "62f3958e736c237bbb6b436e36776d038193f01a34ca340cb31bf6178de58aed"), looks := false }, told := true, laidByText := true, laidKinds := [.data, .mapped, .mapped, .pinned], laidTests := true, laidLooks := .later, goes := false }
def FnValidateSupportedSingletonTableToldSaid : Prop := Claim7.holds Tryf.pinned (.plain (OpenSpec.ofChange fnValidateSupportedSingletonTableSpec)) fnValidateSupportedSingletonTableCard
/-- ITS FALSE NEIGHBOUR. Refute it at one input. -/
def FnValidateSupportedSingletonTableToldWrongFalsely : Prop := Claim7.holds Tryf.pinned (.plain (OpenSpec.ofChange fnValidateSupportedSingletonTableWrong)) fnValidateSupportedSingletonTableCard
end Rows
end Go.Proofs.YtfkchhmjfnkjbaaFmt
