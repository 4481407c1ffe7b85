/-
  No cell of these rows narrows 'for every input' (looked for: loops, veiled, ifaces, maps, wideKeys, modest, calm, conditions, laid).
  DERIVED. THE GIVEN ROWS OF THIS SEAT. 4 by the template 'for every input the law returns true; each argument reads behind the call as it read before'; 0 by the template 'total and deterministic' (their statements: YtlfhminpplaknaaTotals.lean).
  GIVEN WITH THE SEED: the statements are not yours to turn. If you find one false, say at which input.
  Laid BY PROGRAM, IN A SANDBOX (cutbox-rows.mjs): the forced cells as the released guide's own fill.sh prints them over the translation 33c019f9cb018483… (all of the seat's roots in one cut). By AI agents, Wed Nov 11 2026. No macro, syntax, notation, axiom, sorry.
-/
import Derived.Test.YtlfhminpplaknaaChecked
import GoSem.Claim
import GoSem.ClaimJoined
import GoSem.ClaimMapViews
import Derived.JoinedTies
import Derived.KernelRfl
namespace Go.Proofs.Ytlfhminpplaknaa
/- THE CELL 'sum', in the pinned program and in every row, IS THE sha256 OF THE DUMP (.gsa) THAT YtlfhminpplaknaaProg.lean LOADS. Nothing in Lean hashes anything: it is a label: what it is worth is what the hold of that sum in a sandbox is worth. -/
noncomputable def Try.pinned : Pinned := { name := "ytlfhminpplaknaa", sum := "33c019f9cb01848395bc9e106b2c8e64328a09c47c482d9dcd484706d875e494", checked := Try.checked }
namespace Rows
def none {H : Type} : Left H := { results := [], args := [] }

/-- 'n011_28.FnAddConstAgreesWithAdd': WHATEVER THE INPUT: true; the input reads as it did. -/
def fnAddConstAgreesWithAddSpec : ChangeSpec := { name := "fnAddConstAgreesWithAdd", fn := fun _ => fun
  | [d1, d2] => { results := [.lit (.bool true)], args := [d1, d2] }
  | _ => none }
def fnAddConstAgreesWithAddRow : OpenClaim := { program := "ytlfhminpplaknaa", sum := "33c019f9cb01848395bc9e106b2c8e64328a09c47c482d9dcd484706d875e494", func := "github.com/evanw/esbuild/n011_28.FnAddConstAgreesWithAdd", spec := "fnAddConstAgreesWithAdd", apart := false }
def FnAddConstAgreesWithAddSaid : Prop := fnAddConstAgreesWithAddRow.holds Try.pinned (OpenSpec.ofChange fnAddConstAgreesWithAddSpec)

/-- ITS FALSE NEIGHBOUR: 'it returns false'. Refute it at one input. -/
def fnAddConstAgreesWithAddWrong : ChangeSpec := { name := "fnAddConstAgreesWithAdd", fn := fun _ => fun
  | [d1, d2] => { results := [.lit (.bool false)], args := [d1, d2] }
  | _ => none }
def FnAddConstAgreesWithAddWrongFalsely : Prop := fnAddConstAgreesWithAddRow.holds Try.pinned (OpenSpec.ofChange fnAddConstAgreesWithAddWrong)

/-- 'n011_28.FnSubConstAgreesWithSub': WHATEVER THE INPUT: true; the input reads as it did. -/
def fnSubConstAgreesWithSubSpec : ChangeSpec := { name := "fnSubConstAgreesWithSub", fn := fun _ => fun
  | [d1, d2] => { results := [.lit (.bool true)], args := [d1, d2] }
  | _ => none }
def fnSubConstAgreesWithSubRow : OpenClaim := { program := "ytlfhminpplaknaa", sum := "33c019f9cb01848395bc9e106b2c8e64328a09c47c482d9dcd484706d875e494", func := "github.com/evanw/esbuild/n011_28.FnSubConstAgreesWithSub", spec := "fnSubConstAgreesWithSub", apart := false }
def FnSubConstAgreesWithSubSaid : Prop := fnSubConstAgreesWithSubRow.holds Try.pinned (OpenSpec.ofChange fnSubConstAgreesWithSubSpec)

/-- ITS FALSE NEIGHBOUR: 'it returns false'. Refute it at one input. -/
def fnSubConstAgreesWithSubWrong : ChangeSpec := { name := "fnSubConstAgreesWithSub", fn := fun _ => fun
  | [d1, d2] => { results := [.lit (.bool false)], args := [d1, d2] }
  | _ => none }
def FnSubConstAgreesWithSubWrongFalsely : Prop := fnSubConstAgreesWithSubRow.holds Try.pinned (OpenSpec.ofChange fnSubConstAgreesWithSubWrong)

/-- 'n011_28.FnSubIsAddOfNegation': WHATEVER THE INPUT: true; the input reads as it did. -/
def fnSubIsAddOfNegationSpec : ChangeSpec := { name := "fnSubIsAddOfNegation", fn := fun _ => fun
  | [d1, d2] => { results := [.lit (.bool true)], args := [d1, d2] }
  | _ => none }
def fnSubIsAddOfNegationRow : OpenClaim := { program := "ytlfhminpplaknaa", sum := "33c019f9cb01848395bc9e106b2c8e64328a09c47c482d9dcd484706d875e494", func := "github.com/evanw/esbuild/n011_28.FnSubIsAddOfNegation", spec := "fnSubIsAddOfNegation", apart := false }
def FnSubIsAddOfNegationSaid : Prop := fnSubIsAddOfNegationRow.holds Try.pinned (OpenSpec.ofChange fnSubIsAddOfNegationSpec)

/-- ITS FALSE NEIGHBOUR: 'it returns false'. Refute it at one input. -/
def fnSubIsAddOfNegationWrong : ChangeSpec := { name := "fnSubIsAddOfNegation", fn := fun _ => fun
  | [d1, d2] => { results := [.lit (.bool false)], args := [d1, d2] }
  | _ => none }
def FnSubIsAddOfNegationWrongFalsely : Prop := fnSubIsAddOfNegationRow.holds Try.pinned (OpenSpec.ofChange fnSubIsAddOfNegationWrong)

/-- 'n011_28.FnAddConstMatchesIntegerSum': WHATEVER THE INPUT: true; the input reads as it did. -/
def fnAddConstMatchesIntegerSumSpec : ChangeSpec := { name := "fnAddConstMatchesIntegerSum", fn := fun _ => fun
  | [d1, d2] => { results := [.lit (.bool true)], args := [d1, d2] }
  | _ => none }
def fnAddConstMatchesIntegerSumRow : OpenClaim := { program := "ytlfhminpplaknaa", sum := "33c019f9cb01848395bc9e106b2c8e64328a09c47c482d9dcd484706d875e494", func := "github.com/evanw/esbuild/n011_28.FnAddConstMatchesIntegerSum", spec := "fnAddConstMatchesIntegerSum", apart := false }
def FnAddConstMatchesIntegerSumSaid : Prop := fnAddConstMatchesIntegerSumRow.holds Try.pinned (OpenSpec.ofChange fnAddConstMatchesIntegerSumSpec)

/-- ITS FALSE NEIGHBOUR: 'it returns false'. Refute it at one input. -/
def fnAddConstMatchesIntegerSumWrong : ChangeSpec := { name := "fnAddConstMatchesIntegerSum", fn := fun _ => fun
  | [d1, d2] => { results := [.lit (.bool false)], args := [d1, d2] }
  | _ => none }
def FnAddConstMatchesIntegerSumWrongFalsely : Prop := fnAddConstMatchesIntegerSumRow.holds Try.pinned (OpenSpec.ofChange fnAddConstMatchesIntegerSumWrong)

/- THE SECOND FORM. 'bulk': how many values and letters a reading holds, each counted each time it is reached (what is shared counts as often as it is met; a slice's spare places count too). A statement '..UptoSaid' is the law's where the arguments, and the package variables that the reading takes, are together of bulk at most 1048576: NARROWER than '..Said'. Prove '..Said' where nothing that the law and all that it calls make is longer than what came in: it says more and counts as full. Else prove '..UptoSaid'. A law counts once. -/
mutual
def uptoBulk {H : Type} : DataW H → Nat
  | .lit (.string bytes) => bytes.length + 1
  | .lit _ => 1
  | .nil => 1
  | .ptr d => uptoBulk d + 1
  | .slice elems spare => uptoBulkAll elems + uptoBulkAll spare + 1
  | .agg parts => uptoBulkAll parts + 1
  | .iface _ d => uptoBulk d + 1
  | .map entries => uptoBulkEntries entries + 1
  | .held _ => 1
def uptoBulkAll {H : Type} : List (DataW H) → Nat
  | [] => 0
  | d :: r => uptoBulk d + uptoBulkAll r
def uptoBulkEntries {H : Type} : List (Lit × DataW H) → Nat
  | [] => 0
  | x :: r => uptoBulkEntry x + uptoBulkEntries r
def uptoBulkEntry {H : Type} : Lit × DataW H → Nat
  | (.string bytes, d) => bytes.length + uptoBulk d + 1
  | (_, d) => uptoBulk d + 1
 end
def uptoSmall : (H : Type) → List (DataW H) → Bool := fun _ ds => decide (uptoBulkAll ds ≤ 1048576)
def OpenSpec.upto (s : _root_.Go.ChangeSpec) : _root_.Go.OpenSpec := { _root_.Go.OpenSpec.ofChange s with cond := some uptoSmall }

/-- 'n011_28.FnAddConstAgreesWithAdd', WHERE WHAT IT READS IS OF BULK AT MOST 1048576: true; the input reads as it did. -/
def fnAddConstAgreesWithAddUptoRow : OpenClaim := { program := "ytlfhminpplaknaa", sum := "33c019f9cb01848395bc9e106b2c8e64328a09c47c482d9dcd484706d875e494", func := "github.com/evanw/esbuild/n011_28.FnAddConstAgreesWithAdd", spec := "fnAddConstAgreesWithAdd", apart := false, narrowed := true }
def FnAddConstAgreesWithAddUptoSaid : Prop := fnAddConstAgreesWithAddUptoRow.holds Try.pinned (OpenSpec.upto fnAddConstAgreesWithAddSpec)

/-- 'n011_28.FnSubConstAgreesWithSub', WHERE WHAT IT READS IS OF BULK AT MOST 1048576: true; the input reads as it did. -/
def fnSubConstAgreesWithSubUptoRow : OpenClaim := { program := "ytlfhminpplaknaa", sum := "33c019f9cb01848395bc9e106b2c8e64328a09c47c482d9dcd484706d875e494", func := "github.com/evanw/esbuild/n011_28.FnSubConstAgreesWithSub", spec := "fnSubConstAgreesWithSub", apart := false, narrowed := true }
def FnSubConstAgreesWithSubUptoSaid : Prop := fnSubConstAgreesWithSubUptoRow.holds Try.pinned (OpenSpec.upto fnSubConstAgreesWithSubSpec)

/-- 'n011_28.FnSubIsAddOfNegation', WHERE WHAT IT READS IS OF BULK AT MOST 1048576: true; the input reads as it did. -/
def fnSubIsAddOfNegationUptoRow : OpenClaim := { program := "ytlfhminpplaknaa", sum := "33c019f9cb01848395bc9e106b2c8e64328a09c47c482d9dcd484706d875e494", func := "github.com/evanw/esbuild/n011_28.FnSubIsAddOfNegation", spec := "fnSubIsAddOfNegation", apart := false, narrowed := true }
def FnSubIsAddOfNegationUptoSaid : Prop := fnSubIsAddOfNegationUptoRow.holds Try.pinned (OpenSpec.upto fnSubIsAddOfNegationSpec)

/-- 'n011_28.FnAddConstMatchesIntegerSum', WHERE WHAT IT READS IS OF BULK AT MOST 1048576: true; the input reads as it did. -/
def fnAddConstMatchesIntegerSumUptoRow : OpenClaim := { program := "ytlfhminpplaknaa", sum := "33c019f9cb01848395bc9e106b2c8e64328a09c47c482d9dcd484706d875e494", func := "github.com/evanw/esbuild/n011_28.FnAddConstMatchesIntegerSum", spec := "fnAddConstMatchesIntegerSum", apart := false, narrowed := true }
def FnAddConstMatchesIntegerSumUptoSaid : Prop := fnAddConstMatchesIntegerSumUptoRow.holds Try.pinned (OpenSpec.upto fnAddConstMatchesIntegerSumSpec)

end Rows
end Go.Proofs.Ytlfhminpplaknaa
