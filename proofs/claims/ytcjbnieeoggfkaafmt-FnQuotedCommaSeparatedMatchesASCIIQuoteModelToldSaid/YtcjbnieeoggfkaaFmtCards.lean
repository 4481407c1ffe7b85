/-
  DERIVED. GIVEN WITH THE SEED: THE CARDS: each row of YtcjbnieeoggfkaaFmtRows.lean that lists a variable, with what it lists TIED to the program's text (the seventh form; the later family's looks); each row that meets fmt, with fmt's text TOLD by the authors' own Lean function (tested against real Go, not proved from fmt's source: count such statements apart). THE CARD IS WHAT COUNTS. Prove the row's statement (the work); the ties are given (YtcjbnieeoggfkaaFmtTie.lean); close each card by the builder's one call (the guide's Derived/Test/ToyasCard.lean, 'card_holds'). Laid BY PROGRAM, IN A SANDBOX (cutbox-door.mjs). By AI agents, Wed Nov 11 2026. No macro, syntax, notation, axiom, sorry.
-/
import Derived.Test.YtcjbnieeoggfkaaFmtRows
import GoSem.ClaimSeven
namespace Go.Proofs.YtcjbnieeoggfkaaFmt
namespace Rows

/-- THE TOLD CARD OF 'n011_20.FnQuotedCommaSeparatedMatchesASCIIQuoteModel'. -/
def fnQuotedCommaSeparatedMatchesASCIIQuoteModelCard : Claim7 := { stood := { row := fnQuotedCommaSeparatedMatchesASCIIQuoteModelRow, standIns := [], harness := (true, "f6a6d4beb7f305cf79f41557252b1e2daf67c16de0709dcf99bbd09600822043"), looks := false }, told := true, goes := false }
def FnQuotedCommaSeparatedMatchesASCIIQuoteModelToldSaid : Prop := Claim7.holds Tryf.pinned (.plain (OpenSpec.ofChange fnQuotedCommaSeparatedMatchesASCIIQuoteModelSpec)) fnQuotedCommaSeparatedMatchesASCIIQuoteModelCard
/-- ITS FALSE NEIGHBOUR. Refute it at one input. -/
def FnQuotedCommaSeparatedMatchesASCIIQuoteModelToldWrongFalsely : Prop := Claim7.holds Tryf.pinned (.plain (OpenSpec.ofChange fnQuotedCommaSeparatedMatchesASCIIQuoteModelWrong)) fnQuotedCommaSeparatedMatchesASCIIQuoteModelCard
end Rows
end Go.Proofs.YtcjbnieeoggfkaaFmt
