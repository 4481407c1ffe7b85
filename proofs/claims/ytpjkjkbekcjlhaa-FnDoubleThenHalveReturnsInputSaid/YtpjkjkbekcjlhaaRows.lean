/-
  No cell of these rows narrows 'for every input' (looked for: loops, veiled, ifaces, maps, wideKeys, modest, calm, conditions, laid).
  DERIVED. THE GIVEN ROWS OF THIS SEAT. 4 by the template 'for every input the law returns true; each argument reads behind the call as it read before'; 0 by the template 'total and deterministic' (their statements: YtpjkjkbekcjlhaaTotals.lean).
  GIVEN WITH THE SEED: the statements are not yours to turn. If you find one false, say at which input.
  Laid BY PROGRAM, IN A SANDBOX (cutbox-rows.mjs): the forced cells as the released guide's own fill.sh prints them over the translation 9adba71792b886f5… (all of the seat's roots in one cut). By AI agents, Wed Nov 11 2026. No macro, syntax, notation, axiom, sorry.
-/
import Derived.Test.YtpjkjkbekcjlhaaChecked
import GoSem.Claim
import GoSem.ClaimJoined
import GoSem.ClaimMapViews
import Derived.JoinedTies
import Derived.KernelRfl
namespace Go.Proofs.Ytpjkjkbekcjlhaa
/- THE CELL 'sum', in the pinned program and in every row, IS THE sha256 OF THE DUMP (.gsa) THAT YtpjkjkbekcjlhaaProg.lean LOADS. Nothing in Lean hashes anything: it is a label: what it is worth is what the hold of that sum in a sandbox is worth. -/
noncomputable def Try.pinned : Pinned := { name := "ytpjkjkbekcjlhaa", sum := "9adba71792b886f56d78002a4793346c46b72320e1a7c356e08ae83e61c5b5dc", checked := Try.checked }
namespace Rows
def none {H : Type} : Left H := { results := [], args := [] }

/-- 'n011_43.FnDoubleThenHalveReturnsInput': WHATEVER THE INPUT: true; the input reads as it did. -/
def fnDoubleThenHalveReturnsInputSpec : ChangeSpec := { name := "fnDoubleThenHalveReturnsInput", fn := fun _ => fun
  | [d] => { results := [.lit (.bool true)], args := [d] }
  | _ => none }
def fnDoubleThenHalveReturnsInputRow : OpenClaim := { program := "ytpjkjkbekcjlhaa", sum := "9adba71792b886f56d78002a4793346c46b72320e1a7c356e08ae83e61c5b5dc", func := "github.com/evanw/esbuild/n011_43.FnDoubleThenHalveReturnsInput", spec := "fnDoubleThenHalveReturnsInput", apart := false }
def FnDoubleThenHalveReturnsInputSaid : Prop := fnDoubleThenHalveReturnsInputRow.holds Try.pinned (OpenSpec.ofChange fnDoubleThenHalveReturnsInputSpec)

/-- ITS FALSE NEIGHBOUR: 'it returns false'. Refute it at one input. -/
def fnDoubleThenHalveReturnsInputWrong : ChangeSpec := { name := "fnDoubleThenHalveReturnsInput", fn := fun _ => fun
  | [d] => { results := [.lit (.bool false)], args := [d] }
  | _ => none }
def FnDoubleThenHalveReturnsInputWrongFalsely : Prop := fnDoubleThenHalveReturnsInputRow.holds Try.pinned (OpenSpec.ofChange fnDoubleThenHalveReturnsInputWrong)

/-- 'n011_43.FnMulConstByUnits': WHATEVER THE INPUT: true; the input reads as it did. -/
def fnMulConstByUnitsSpec : ChangeSpec := { name := "fnMulConstByUnits", fn := fun _ => fun
  | [d] => { results := [.lit (.bool true)], args := [d] }
  | _ => none }
def fnMulConstByUnitsRow : OpenClaim := { program := "ytpjkjkbekcjlhaa", sum := "9adba71792b886f56d78002a4793346c46b72320e1a7c356e08ae83e61c5b5dc", func := "github.com/evanw/esbuild/n011_43.FnMulConstByUnits", spec := "fnMulConstByUnits", apart := false }
def FnMulConstByUnitsSaid : Prop := fnMulConstByUnitsRow.holds Try.pinned (OpenSpec.ofChange fnMulConstByUnitsSpec)

/-- ITS FALSE NEIGHBOUR: 'it returns false'. Refute it at one input. -/
def fnMulConstByUnitsWrong : ChangeSpec := { name := "fnMulConstByUnits", fn := fun _ => fun
  | [d] => { results := [.lit (.bool false)], args := [d] }
  | _ => none }
def FnMulConstByUnitsWrongFalsely : Prop := fnMulConstByUnitsRow.holds Try.pinned (OpenSpec.ofChange fnMulConstByUnitsWrong)

/-- 'n011_43.FnDivSelfIsOneOrNaN': WHATEVER THE INPUT: true; the input reads as it did. -/
def fnDivSelfIsOneOrNaNSpec : ChangeSpec := { name := "fnDivSelfIsOneOrNaN", fn := fun _ => fun
  | [d] => { results := [.lit (.bool true)], args := [d] }
  | _ => none }
def fnDivSelfIsOneOrNaNRow : OpenClaim := { program := "ytpjkjkbekcjlhaa", sum := "9adba71792b886f56d78002a4793346c46b72320e1a7c356e08ae83e61c5b5dc", func := "github.com/evanw/esbuild/n011_43.FnDivSelfIsOneOrNaN", spec := "fnDivSelfIsOneOrNaN", apart := false }
def FnDivSelfIsOneOrNaNSaid : Prop := fnDivSelfIsOneOrNaNRow.holds Try.pinned (OpenSpec.ofChange fnDivSelfIsOneOrNaNSpec)

/-- ITS FALSE NEIGHBOUR: 'it returns false'. Refute it at one input. -/
def fnDivSelfIsOneOrNaNWrong : ChangeSpec := { name := "fnDivSelfIsOneOrNaN", fn := fun _ => fun
  | [d] => { results := [.lit (.bool false)], args := [d] }
  | _ => none }
def FnDivSelfIsOneOrNaNWrongFalsely : Prop := fnDivSelfIsOneOrNaNRow.holds Try.pinned (OpenSpec.ofChange fnDivSelfIsOneOrNaNWrong)

/-- 'n011_43.FnMulExactOnIntegers': WHATEVER THE INPUT: true; the input reads as it did. -/
def fnMulExactOnIntegersSpec : ChangeSpec := { name := "fnMulExactOnIntegers", fn := fun _ => fun
  | [d1, d2] => { results := [.lit (.bool true)], args := [d1, d2] }
  | _ => none }
def fnMulExactOnIntegersRow : OpenClaim := { program := "ytpjkjkbekcjlhaa", sum := "9adba71792b886f56d78002a4793346c46b72320e1a7c356e08ae83e61c5b5dc", func := "github.com/evanw/esbuild/n011_43.FnMulExactOnIntegers", spec := "fnMulExactOnIntegers", apart := false }
def FnMulExactOnIntegersSaid : Prop := fnMulExactOnIntegersRow.holds Try.pinned (OpenSpec.ofChange fnMulExactOnIntegersSpec)

/-- ITS FALSE NEIGHBOUR: 'it returns false'. Refute it at one input. -/
def fnMulExactOnIntegersWrong : ChangeSpec := { name := "fnMulExactOnIntegers", fn := fun _ => fun
  | [d1, d2] => { results := [.lit (.bool false)], args := [d1, d2] }
  | _ => none }
def FnMulExactOnIntegersWrongFalsely : Prop := fnMulExactOnIntegersRow.holds Try.pinned (OpenSpec.ofChange fnMulExactOnIntegersWrong)

/- THE SECOND FORM. 'bulk': how many values and letters a reading holds, each counted each time it is reached (what is shared counts as often as it is met; a slice's spare places count too). A statement '..UptoSaid' is the law's where the arguments, and the package variables that the reading takes, are together of bulk at most 1048576: NARROWER than '..Said'. Prove '..Said' where nothing that the law and all that it calls make is longer than what came in: it says more and counts as full. Else prove '..UptoSaid'. A law counts once. -/
mutual
def uptoBulk {H : Type} : DataW H → Nat
  | .lit (.string bytes) => bytes.length + 1
  | .lit _ => 1
  | .nil => 1
  | .ptr d => uptoBulk d + 1
  | .slice elems spare => uptoBulkAll elems + uptoBulkAll spare + 1
  | .agg parts => uptoBulkAll parts + 1
  | .iface _ d => uptoBulk d + 1
  | .map entries => uptoBulkEntries entries + 1
  | .held _ => 1
def uptoBulkAll {H : Type} : List (DataW H) → Nat
  | [] => 0
  | d :: r => uptoBulk d + uptoBulkAll r
def uptoBulkEntries {H : Type} : List (Lit × DataW H) → Nat
  | [] => 0
  | x :: r => uptoBulkEntry x + uptoBulkEntries r
def uptoBulkEntry {H : Type} : Lit × DataW H → Nat
  | (.string bytes, d) => bytes.length + uptoBulk d + 1
  | (_, d) => uptoBulk d + 1
 end
def uptoSmall : (H : Type) → List (DataW H) → Bool := fun _ ds => decide (uptoBulkAll ds ≤ 1048576)
def OpenSpec.upto (s : _root_.Go.ChangeSpec) : _root_.Go.OpenSpec := { _root_.Go.OpenSpec.ofChange s with cond := some uptoSmall }

/-- 'n011_43.FnDoubleThenHalveReturnsInput', WHERE WHAT IT READS IS OF BULK AT MOST 1048576: true; the input reads as it did. -/
def fnDoubleThenHalveReturnsInputUptoRow : OpenClaim := { program := "ytpjkjkbekcjlhaa", sum := "9adba71792b886f56d78002a4793346c46b72320e1a7c356e08ae83e61c5b5dc", func := "github.com/evanw/esbuild/n011_43.FnDoubleThenHalveReturnsInput", spec := "fnDoubleThenHalveReturnsInput", apart := false, narrowed := true }
def FnDoubleThenHalveReturnsInputUptoSaid : Prop := fnDoubleThenHalveReturnsInputUptoRow.holds Try.pinned (OpenSpec.upto fnDoubleThenHalveReturnsInputSpec)

/-- 'n011_43.FnMulConstByUnits', WHERE WHAT IT READS IS OF BULK AT MOST 1048576: true; the input reads as it did. -/
def fnMulConstByUnitsUptoRow : OpenClaim := { program := "ytpjkjkbekcjlhaa", sum := "9adba71792b886f56d78002a4793346c46b72320e1a7c356e08ae83e61c5b5dc", func := "github.com/evanw/esbuild/n011_43.FnMulConstByUnits", spec := "fnMulConstByUnits", apart := false, narrowed := true }
def FnMulConstByUnitsUptoSaid : Prop := fnMulConstByUnitsUptoRow.holds Try.pinned (OpenSpec.upto fnMulConstByUnitsSpec)

/-- 'n011_43.FnDivSelfIsOneOrNaN', WHERE WHAT IT READS IS OF BULK AT MOST 1048576: true; the input reads as it did. -/
def fnDivSelfIsOneOrNaNUptoRow : OpenClaim := { program := "ytpjkjkbekcjlhaa", sum := "9adba71792b886f56d78002a4793346c46b72320e1a7c356e08ae83e61c5b5dc", func := "github.com/evanw/esbuild/n011_43.FnDivSelfIsOneOrNaN", spec := "fnDivSelfIsOneOrNaN", apart := false, narrowed := true }
def FnDivSelfIsOneOrNaNUptoSaid : Prop := fnDivSelfIsOneOrNaNUptoRow.holds Try.pinned (OpenSpec.upto fnDivSelfIsOneOrNaNSpec)

/-- 'n011_43.FnMulExactOnIntegers', WHERE WHAT IT READS IS OF BULK AT MOST 1048576: true; the input reads as it did. -/
def fnMulExactOnIntegersUptoRow : OpenClaim := { program := "ytpjkjkbekcjlhaa", sum := "9adba71792b886f56d78002a4793346c46b72320e1a7c356e08ae83e61c5b5dc", func := "github.com/evanw/esbuild/n011_43.FnMulExactOnIntegers", spec := "fnMulExactOnIntegers", apart := false, narrowed := true }
def FnMulExactOnIntegersUptoSaid : Prop := fnMulExactOnIntegersUptoRow.holds Try.pinned (OpenSpec.upto fnMulExactOnIntegersSpec)

end Rows
end Go.Proofs.Ytpjkjkbekcjlhaa
