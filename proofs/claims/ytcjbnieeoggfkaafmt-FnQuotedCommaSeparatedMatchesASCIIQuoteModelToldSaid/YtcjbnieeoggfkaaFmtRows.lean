/-
  No cell of these rows narrows 'for every input' (looked for: loops, veiled, ifaces, maps, wideKeys, modest, calm, conditions, laid).
  DERIVED. THE GIVEN ROWS OF THIS SEAT. 1 by the template 'for every input the law returns true; each argument reads behind the call as it read before'; 0 by the template 'total and deterministic' (their statements: YtcjbnieeoggfkaaFmtTotals.lean).
  GIVEN WITH THE SEED: the statements are not yours to turn. If you find one false, say at which input.
  Laid BY PROGRAM, IN A SANDBOX (cutbox-rows.mjs): the forced cells as the released guide's own fill.sh prints them over the translation 00cc2623fc516a88… (all of the seat's roots in one cut). By AI agents, Wed Nov 11 2026. No macro, syntax, notation, axiom, sorry.
-/
import Derived.Test.YtcjbnieeoggfkaaFmtChecked
import GoSem.Claim
import GoSem.ClaimJoined
import GoSem.ClaimMapViews
import Derived.JoinedTies
import Derived.KernelRfl
namespace Go.Proofs.YtcjbnieeoggfkaaFmt
/- THE CELL 'sum', in the pinned program and in every row, IS THE sha256 OF THE DUMP (.gsa) THAT YtcjbnieeoggfkaaFmtProg.lean LOADS. Nothing in Lean hashes anything: it is a label: what it is worth is what the hold of that sum in a sandbox is worth. -/
noncomputable def Tryf.pinned : Pinned := { name := "ytcjbnieeoggfkaafmt", sum := "00cc2623fc516a88b0ca16c95f809f67c43eed6b04897b9ff6dea3354e65a535", checked := Tryf.checked }
namespace Rows
def none {H : Type} : Left H := { results := [], args := [] }

/-- 'n011_20.FnQuotedCommaSeparatedMatchesASCIIQuoteModel': WHATEVER THE INPUT: true; the input reads as it did. -/
def fnQuotedCommaSeparatedMatchesASCIIQuoteModelSpec : ChangeSpec := { name := "fnQuotedCommaSeparatedMatchesASCIIQuoteModel", fn := fun _ => fun
  | [d] => { results := [.lit (.bool true)], args := [d] }
  | _ => none }
def fnQuotedCommaSeparatedMatchesASCIIQuoteModelRow : OpenClaim := { program := "ytcjbnieeoggfkaafmt", sum := "00cc2623fc516a88b0ca16c95f809f67c43eed6b04897b9ff6dea3354e65a535", func := "github.com/evanw/esbuild/n011_20.FnQuotedCommaSeparatedMatchesASCIIQuoteModel", spec := "fnQuotedCommaSeparatedMatchesASCIIQuoteModel", stops := ["fmt.Sprintf"], inPlace := ["internal/abi.NoEscape", "fmt.Sprintf"], apart := false }
/-- NO THEOREM (fmt's text is open here; it may be false): for the released tool's asking of the row's closed facts alone. THE STATEMENT IS 'FnQuotedCommaSeparatedMatchesASCIIQuoteModelToldSaid' (YtcjbnieeoggfkaaFmtCards.lean). -/
def FnQuotedCommaSeparatedMatchesASCIIQuoteModelFormAsk : Prop := fnQuotedCommaSeparatedMatchesASCIIQuoteModelRow.holds Tryf.pinned (OpenSpec.ofChange fnQuotedCommaSeparatedMatchesASCIIQuoteModelSpec)

/-- ITS FALSE NEIGHBOUR: 'it returns false'. Refute it at one input. -/
def fnQuotedCommaSeparatedMatchesASCIIQuoteModelWrong : ChangeSpec := { name := "fnQuotedCommaSeparatedMatchesASCIIQuoteModel", fn := fun _ => fun
  | [d] => { results := [.lit (.bool false)], args := [d] }
  | _ => none }
def FnQuotedCommaSeparatedMatchesASCIIQuoteModelWrongFormAsk : Prop := fnQuotedCommaSeparatedMatchesASCIIQuoteModelRow.holds Tryf.pinned (OpenSpec.ofChange fnQuotedCommaSeparatedMatchesASCIIQuoteModelWrong)

end Rows
end Go.Proofs.YtcjbnieeoggfkaaFmt
