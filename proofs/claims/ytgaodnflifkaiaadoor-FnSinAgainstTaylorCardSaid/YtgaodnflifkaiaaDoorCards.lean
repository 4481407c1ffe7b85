/-
  DERIVED. GIVEN WITH THE SEED: THE CARDS: each row of YtgaodnflifkaiaaDoorRows.lean that lists a variable, with what it lists TIED to the program's text (the seventh form; the later family's looks); each row that meets fmt, with fmt's text TOLD by the authors' own Lean function (tested against real Go, not proved from fmt's source: count such statements apart). THE CARD IS WHAT COUNTS. Prove the row's statement (the work); the ties are given (YtgaodnflifkaiaaDoorTie.lean); close each card by the builder's one call (the guide's Derived/Test/ToyasCard.lean, 'card_holds'). Laid BY PROGRAM, IN A SANDBOX (cutbox-door.mjs). By AI agents, Wed Nov 11 2026. No macro, syntax, notation, axiom, sorry.
-/
import Derived.Test.YtgaodnflifkaiaaDoorRows
import GoSem.ClaimSeven
namespace Go.Proofs.YtgaodnflifkaiaaDoor
namespace Rows

/-- THE TIED CARD OF 'n011_268.FnSinOddBounded'. -/
def fnSinOddBoundedCard : Claim7 := { stood := { row := fnSinOddBoundedRow, standIns := [], harness := (true, "6d89f67d92c5b5f40e6f65f76af5edb303f9ccebbecd7d7d585c6dc61f7fd7f9"), looks := false }, kinds := [], alts := [], laidByText := true, laidKinds := [.data, .data, .data], laidTests := true, laidLooks := .later }
def FnSinOddBoundedCardSaid : Prop := Claim7.holds Tryd.pinned (.plain (OpenSpec.ofChange fnSinOddBoundedSpec)) fnSinOddBoundedCard

/-- THE TIED CARD OF 'n011_268.FnSinAgainstTaylor'. -/
def fnSinAgainstTaylorCard : Claim7 := { stood := { row := fnSinAgainstTaylorRow, standIns := [], harness := (true, "6d89f67d92c5b5f40e6f65f76af5edb303f9ccebbecd7d7d585c6dc61f7fd7f9"), looks := false }, kinds := [], alts := [], laidByText := true, laidKinds := [.data, .data, .data], laidTests := true, laidLooks := .later }
def FnSinAgainstTaylorCardSaid : Prop := Claim7.holds Tryd.pinned (.plain (OpenSpec.ofChange fnSinAgainstTaylorSpec)) fnSinAgainstTaylorCard

/-- THE SECOND FORM's CARD OF 'n011_268.FnSinOddBounded'. -/
def fnSinOddBoundedUptoCard : Claim7 := { stood := { row := fnSinOddBoundedUptoRow, standIns := [], harness := (true, "6d89f67d92c5b5f40e6f65f76af5edb303f9ccebbecd7d7d585c6dc61f7fd7f9"), looks := false }, kinds := [], alts := [], laidByText := true, laidKinds := [.data, .data, .data], laidTests := true, laidLooks := .later }
def FnSinOddBoundedUptoCardSaid : Prop := Claim7.holds Tryd.pinned (.plain (OpenSpec.upto fnSinOddBoundedSpec)) fnSinOddBoundedUptoCard

/-- THE SECOND FORM's CARD OF 'n011_268.FnSinAgainstTaylor'. -/
def fnSinAgainstTaylorUptoCard : Claim7 := { stood := { row := fnSinAgainstTaylorUptoRow, standIns := [], harness := (true, "6d89f67d92c5b5f40e6f65f76af5edb303f9ccebbecd7d7d585c6dc61f7fd7f9"), looks := false }, kinds := [], alts := [], laidByText := true, laidKinds := [.data, .data, .data], laidTests := true, laidLooks := .later }
def FnSinAgainstTaylorUptoCardSaid : Prop := Claim7.holds Tryd.pinned (.plain (OpenSpec.upto fnSinAgainstTaylorSpec)) fnSinAgainstTaylorUptoCard
end Rows
end Go.Proofs.YtgaodnflifkaiaaDoor
