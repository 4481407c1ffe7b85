/-
  No cell of these rows narrows 'for every input' (looked for: loops, veiled, ifaces, maps, wideKeys, modest, calm, conditions, laid).
  DERIVED. THE GIVEN ROWS OF THIS SEAT. 5 by the template 'for every input the law returns true; each argument reads behind the call as it read before'; 0 by the template 'total and deterministic' (their statements: YtehmgpceajbmkaaTotals.lean).
  GIVEN WITH THE SEED: the statements are not yours to turn. If you find one false, say at which input.
  Laid BY PROGRAM, IN A SANDBOX (cutbox-rows.mjs): the forced cells as the released guide's own fill.sh prints them over the translation b365d88e36a51c2a… (all of the seat's roots in one cut). By AI agents, Wed Nov 11 2026. No macro, syntax, notation, axiom, sorry.
-/
import Derived.Test.YtehmgpceajbmkaaChecked
import GoSem.Claim
import GoSem.ClaimJoined
import GoSem.ClaimMapViews
import Derived.JoinedTies
import Derived.KernelRfl
namespace Go.Proofs.Ytehmgpceajbmkaa
/- THE CELL 'sum', in the pinned program and in every row, IS THE sha256 OF THE DUMP (.gsa) THAT YtehmgpceajbmkaaProg.lean LOADS. Nothing in Lean hashes anything: it is a label: what it is worth is what the hold of that sum in a sandbox is worth. -/
noncomputable def Try.pinned : Pinned := { name := "ytehmgpceajbmkaa", sum := "b365d88e36a51c2a880d3ffe832d19dc73df01c8095cb3bc32489c8b908306b3", checked := Try.checked }
namespace Rows
def none {H : Type} : Left H := { results := [], args := [] }

/-- 'n011_21.FnCubedIsOddAndKeepsSign': WHATEVER THE INPUT: true; the input reads as it did. -/
def fnCubedIsOddAndKeepsSignSpec : ChangeSpec := { name := "fnCubedIsOddAndKeepsSign", fn := fun _ => fun
  | [d] => { results := [.lit (.bool true)], args := [d] }
  | _ => none }
def fnCubedIsOddAndKeepsSignRow : OpenClaim := { program := "ytehmgpceajbmkaa", sum := "b365d88e36a51c2a880d3ffe832d19dc73df01c8095cb3bc32489c8b908306b3", func := "github.com/evanw/esbuild/n011_21.FnCubedIsOddAndKeepsSign", spec := "fnCubedIsOddAndKeepsSign", apart := false }
def FnCubedIsOddAndKeepsSignSaid : Prop := fnCubedIsOddAndKeepsSignRow.holds Try.pinned (OpenSpec.ofChange fnCubedIsOddAndKeepsSignSpec)

/-- ITS FALSE NEIGHBOUR: 'it returns false'. Refute it at one input. -/
def fnCubedIsOddAndKeepsSignWrong : ChangeSpec := { name := "fnCubedIsOddAndKeepsSign", fn := fun _ => fun
  | [d] => { results := [.lit (.bool false)], args := [d] }
  | _ => none }
def FnCubedIsOddAndKeepsSignWrongFalsely : Prop := fnCubedIsOddAndKeepsSignRow.holds Try.pinned (OpenSpec.ofChange fnCubedIsOddAndKeepsSignWrong)

/-- 'n011_21.FnSquaredOfScaledIntegerIsExact': WHATEVER THE INPUT: true; the input reads as it did. -/
def fnSquaredOfScaledIntegerIsExactSpec : ChangeSpec := { name := "fnSquaredOfScaledIntegerIsExact", fn := fun _ => fun
  | [d1, d2] => { results := [.lit (.bool true)], args := [d1, d2] }
  | _ => none }
def fnSquaredOfScaledIntegerIsExactRow : OpenClaim := { program := "ytehmgpceajbmkaa", sum := "b365d88e36a51c2a880d3ffe832d19dc73df01c8095cb3bc32489c8b908306b3", func := "github.com/evanw/esbuild/n011_21.FnSquaredOfScaledIntegerIsExact", spec := "fnSquaredOfScaledIntegerIsExact", apart := false }
def FnSquaredOfScaledIntegerIsExactSaid : Prop := fnSquaredOfScaledIntegerIsExactRow.holds Try.pinned (OpenSpec.ofChange fnSquaredOfScaledIntegerIsExactSpec)

/-- ITS FALSE NEIGHBOUR: 'it returns false'. Refute it at one input. -/
def fnSquaredOfScaledIntegerIsExactWrong : ChangeSpec := { name := "fnSquaredOfScaledIntegerIsExact", fn := fun _ => fun
  | [d1, d2] => { results := [.lit (.bool false)], args := [d1, d2] }
  | _ => none }
def FnSquaredOfScaledIntegerIsExactWrongFalsely : Prop := fnSquaredOfScaledIntegerIsExactRow.holds Try.pinned (OpenSpec.ofChange fnSquaredOfScaledIntegerIsExactWrong)

/-- 'n011_21.FnSqrtOfPerfectSquareIsExact': WHATEVER THE INPUT: true; the input reads as it did. -/
def fnSqrtOfPerfectSquareIsExactSpec : ChangeSpec := { name := "fnSqrtOfPerfectSquareIsExact", fn := fun _ => fun
  | [d1, d2] => { results := [.lit (.bool true)], args := [d1, d2] }
  | _ => none }
def fnSqrtOfPerfectSquareIsExactRow : OpenClaim := { program := "ytehmgpceajbmkaa", sum := "b365d88e36a51c2a880d3ffe832d19dc73df01c8095cb3bc32489c8b908306b3", func := "github.com/evanw/esbuild/n011_21.FnSqrtOfPerfectSquareIsExact", spec := "fnSqrtOfPerfectSquareIsExact", inPlace := ["math.sqrt"], apart := false }
def FnSqrtOfPerfectSquareIsExactSaid : Prop := fnSqrtOfPerfectSquareIsExactRow.holds Try.pinned (OpenSpec.ofChange fnSqrtOfPerfectSquareIsExactSpec)

/-- ITS FALSE NEIGHBOUR: 'it returns false'. Refute it at one input. -/
def fnSqrtOfPerfectSquareIsExactWrong : ChangeSpec := { name := "fnSqrtOfPerfectSquareIsExact", fn := fun _ => fun
  | [d1, d2] => { results := [.lit (.bool false)], args := [d1, d2] }
  | _ => none }
def FnSqrtOfPerfectSquareIsExactWrongFalsely : Prop := fnSqrtOfPerfectSquareIsExactRow.holds Try.pinned (OpenSpec.ofChange fnSqrtOfPerfectSquareIsExactWrong)

/-- 'n011_21.FnCbrtCubedReturnsInput': WHATEVER THE INPUT: true; the input reads as it did. -/
def fnCbrtCubedReturnsInputSpec : ChangeSpec := { name := "fnCbrtCubedReturnsInput", fn := fun _ => fun
  | [d] => { results := [.lit (.bool true)], args := [d] }
  | _ => none }
def fnCbrtCubedReturnsInputRow : OpenClaim := { program := "ytehmgpceajbmkaa", sum := "b365d88e36a51c2a880d3ffe832d19dc73df01c8095cb3bc32489c8b908306b3", func := "github.com/evanw/esbuild/n011_21.FnCbrtCubedReturnsInput", spec := "fnCbrtCubedReturnsInput", inPlace := ["math.Float64bits", "math.Float64frombits"], apart := false }
def FnCbrtCubedReturnsInputSaid : Prop := fnCbrtCubedReturnsInputRow.holds Try.pinned (OpenSpec.ofChange fnCbrtCubedReturnsInputSpec)

/-- ITS FALSE NEIGHBOUR: 'it returns false'. Refute it at one input. -/
def fnCbrtCubedReturnsInputWrong : ChangeSpec := { name := "fnCbrtCubedReturnsInput", fn := fun _ => fun
  | [d] => { results := [.lit (.bool false)], args := [d] }
  | _ => none }
def FnCbrtCubedReturnsInputWrongFalsely : Prop := fnCbrtCubedReturnsInputRow.holds Try.pinned (OpenSpec.ofChange fnCbrtCubedReturnsInputWrong)

/-- 'n011_21.FnCbrtIsOddAndKeepsClass': WHATEVER THE INPUT: true; the input reads as it did. -/
def fnCbrtIsOddAndKeepsClassSpec : ChangeSpec := { name := "fnCbrtIsOddAndKeepsClass", fn := fun _ => fun
  | [d] => { results := [.lit (.bool true)], args := [d] }
  | _ => none }
def fnCbrtIsOddAndKeepsClassRow : OpenClaim := { program := "ytehmgpceajbmkaa", sum := "b365d88e36a51c2a880d3ffe832d19dc73df01c8095cb3bc32489c8b908306b3", func := "github.com/evanw/esbuild/n011_21.FnCbrtIsOddAndKeepsClass", spec := "fnCbrtIsOddAndKeepsClass", inPlace := ["math.Float64bits", "math.Float64frombits"], apart := false }
def FnCbrtIsOddAndKeepsClassSaid : Prop := fnCbrtIsOddAndKeepsClassRow.holds Try.pinned (OpenSpec.ofChange fnCbrtIsOddAndKeepsClassSpec)

/-- ITS FALSE NEIGHBOUR: 'it returns false'. Refute it at one input. -/
def fnCbrtIsOddAndKeepsClassWrong : ChangeSpec := { name := "fnCbrtIsOddAndKeepsClass", fn := fun _ => fun
  | [d] => { results := [.lit (.bool false)], args := [d] }
  | _ => none }
def FnCbrtIsOddAndKeepsClassWrongFalsely : Prop := fnCbrtIsOddAndKeepsClassRow.holds Try.pinned (OpenSpec.ofChange fnCbrtIsOddAndKeepsClassWrong)

/- THE SECOND FORM. 'bulk': how many values and letters a reading holds, each counted each time it is reached (what is shared counts as often as it is met; a slice's spare places count too). A statement '..UptoSaid' is the law's where the arguments, and the package variables that the reading takes, are together of bulk at most 1048576: NARROWER than '..Said'. Prove '..Said' where nothing that the law and all that it calls make is longer than what came in: it says more and counts as full. Else prove '..UptoSaid'. A law counts once. -/
mutual
def uptoBulk {H : Type} : DataW H → Nat
  | .lit (.string bytes) => bytes.length + 1
  | .lit _ => 1
  | .nil => 1
  | .ptr d => uptoBulk d + 1
  | .slice elems spare => uptoBulkAll elems + uptoBulkAll spare + 1
  | .agg parts => uptoBulkAll parts + 1
  | .iface _ d => uptoBulk d + 1
  | .map entries => uptoBulkEntries entries + 1
  | .held _ => 1
def uptoBulkAll {H : Type} : List (DataW H) → Nat
  | [] => 0
  | d :: r => uptoBulk d + uptoBulkAll r
def uptoBulkEntries {H : Type} : List (Lit × DataW H) → Nat
  | [] => 0
  | x :: r => uptoBulkEntry x + uptoBulkEntries r
def uptoBulkEntry {H : Type} : Lit × DataW H → Nat
  | (.string bytes, d) => bytes.length + uptoBulk d + 1
  | (_, d) => uptoBulk d + 1
 end
def uptoSmall : (H : Type) → List (DataW H) → Bool := fun _ ds => decide (uptoBulkAll ds ≤ 1048576)
def OpenSpec.upto (s : _root_.Go.ChangeSpec) : _root_.Go.OpenSpec := { _root_.Go.OpenSpec.ofChange s with cond := some uptoSmall }

/-- 'n011_21.FnCubedIsOddAndKeepsSign', WHERE WHAT IT READS IS OF BULK AT MOST 1048576: true; the input reads as it did. -/
def fnCubedIsOddAndKeepsSignUptoRow : OpenClaim := { program := "ytehmgpceajbmkaa", sum := "b365d88e36a51c2a880d3ffe832d19dc73df01c8095cb3bc32489c8b908306b3", func := "github.com/evanw/esbuild/n011_21.FnCubedIsOddAndKeepsSign", spec := "fnCubedIsOddAndKeepsSign", apart := false, narrowed := true }
def FnCubedIsOddAndKeepsSignUptoSaid : Prop := fnCubedIsOddAndKeepsSignUptoRow.holds Try.pinned (OpenSpec.upto fnCubedIsOddAndKeepsSignSpec)

/-- 'n011_21.FnSquaredOfScaledIntegerIsExact', WHERE WHAT IT READS IS OF BULK AT MOST 1048576: true; the input reads as it did. -/
def fnSquaredOfScaledIntegerIsExactUptoRow : OpenClaim := { program := "ytehmgpceajbmkaa", sum := "b365d88e36a51c2a880d3ffe832d19dc73df01c8095cb3bc32489c8b908306b3", func := "github.com/evanw/esbuild/n011_21.FnSquaredOfScaledIntegerIsExact", spec := "fnSquaredOfScaledIntegerIsExact", apart := false, narrowed := true }
def FnSquaredOfScaledIntegerIsExactUptoSaid : Prop := fnSquaredOfScaledIntegerIsExactUptoRow.holds Try.pinned (OpenSpec.upto fnSquaredOfScaledIntegerIsExactSpec)

/-- 'n011_21.FnSqrtOfPerfectSquareIsExact', WHERE WHAT IT READS IS OF BULK AT MOST 1048576: true; the input reads as it did. -/
def fnSqrtOfPerfectSquareIsExactUptoRow : OpenClaim := { program := "ytehmgpceajbmkaa", sum := "b365d88e36a51c2a880d3ffe832d19dc73df01c8095cb3bc32489c8b908306b3", func := "github.com/evanw/esbuild/n011_21.FnSqrtOfPerfectSquareIsExact", spec := "fnSqrtOfPerfectSquareIsExact", inPlace := ["math.sqrt"], apart := false, narrowed := true }
def FnSqrtOfPerfectSquareIsExactUptoSaid : Prop := fnSqrtOfPerfectSquareIsExactUptoRow.holds Try.pinned (OpenSpec.upto fnSqrtOfPerfectSquareIsExactSpec)

/-- 'n011_21.FnCbrtCubedReturnsInput', WHERE WHAT IT READS IS OF BULK AT MOST 1048576: true; the input reads as it did. -/
def fnCbrtCubedReturnsInputUptoRow : OpenClaim := { program := "ytehmgpceajbmkaa", sum := "b365d88e36a51c2a880d3ffe832d19dc73df01c8095cb3bc32489c8b908306b3", func := "github.com/evanw/esbuild/n011_21.FnCbrtCubedReturnsInput", spec := "fnCbrtCubedReturnsInput", inPlace := ["math.Float64bits", "math.Float64frombits"], apart := false, narrowed := true }
def FnCbrtCubedReturnsInputUptoSaid : Prop := fnCbrtCubedReturnsInputUptoRow.holds Try.pinned (OpenSpec.upto fnCbrtCubedReturnsInputSpec)

/-- 'n011_21.FnCbrtIsOddAndKeepsClass', WHERE WHAT IT READS IS OF BULK AT MOST 1048576: true; the input reads as it did. -/
def fnCbrtIsOddAndKeepsClassUptoRow : OpenClaim := { program := "ytehmgpceajbmkaa", sum := "b365d88e36a51c2a880d3ffe832d19dc73df01c8095cb3bc32489c8b908306b3", func := "github.com/evanw/esbuild/n011_21.FnCbrtIsOddAndKeepsClass", spec := "fnCbrtIsOddAndKeepsClass", inPlace := ["math.Float64bits", "math.Float64frombits"], apart := false, narrowed := true }
def FnCbrtIsOddAndKeepsClassUptoSaid : Prop := fnCbrtIsOddAndKeepsClassUptoRow.holds Try.pinned (OpenSpec.upto fnCbrtIsOddAndKeepsClassSpec)

end Rows
end Go.Proofs.Ytehmgpceajbmkaa
