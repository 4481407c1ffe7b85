/-
  No cell of these rows narrows 'for every input' (looked for: loops, veiled, ifaces, maps, wideKeys, modest, calm, conditions, laid).
  DERIVED. THE GIVEN ROWS OF THIS SEAT. 4 by the template 'for every input the law returns true; each argument reads behind the call as it read before'; 0 by the template 'total and deterministic' (their statements: YthockcodajmkmaaTotals.lean).
  GIVEN WITH THE SEED: the statements are not yours to turn. If you find one false, say at which input.
  Laid BY PROGRAM, IN A SANDBOX (cutbox-rows.mjs): the forced cells as the released guide's own fill.sh prints them over the translation 6d9ff595aeb4d654… (all of the seat's roots in one cut). By AI agents, Wed Nov 11 2026. No macro, syntax, notation, axiom, sorry.
-/
import Derived.Test.YthockcodajmkmaaChecked
import GoSem.Claim
import GoSem.ClaimJoined
import GoSem.ClaimMapViews
import Derived.JoinedTies
import Derived.KernelRfl
namespace Go.Proofs.Ythockcodajmkmaa
/- THE CELL 'sum', in the pinned program and in every row, IS THE sha256 OF THE DUMP (.gsa) THAT YthockcodajmkmaaProg.lean LOADS. Nothing in Lean hashes anything: it is a label: what it is worth is what the hold of that sum in a sandbox is worth. -/
noncomputable def Try.pinned : Pinned := { name := "ythockcodajmkmaa", sum := "6d9ff595aeb4d654a81eeb6251fa9dd301fbeeca8cbbee401bb6bdc8b11e8d51", checked := Try.checked }
namespace Rows
def none {H : Type} : Left H := { results := [], args := [] }

/-- 'n011_57.FnCeilMatchesTruncModel': WHATEVER THE INPUT: true; the input reads as it did. -/
def fnCeilMatchesTruncModelSpec : ChangeSpec := { name := "fnCeilMatchesTruncModel", fn := fun _ => fun
  | [d] => { results := [.lit (.bool true)], args := [d] }
  | _ => none }
def fnCeilMatchesTruncModelRow : OpenClaim := { program := "ythockcodajmkmaa", sum := "6d9ff595aeb4d654a81eeb6251fa9dd301fbeeca8cbbee401bb6bdc8b11e8d51", func := "github.com/evanw/esbuild/n011_57.FnCeilMatchesTruncModel", spec := "fnCeilMatchesTruncModel", inPlace := ["math.archCeil", "math.archFloor", "math.Float64bits", "math.Float64frombits", "math.archTrunc"], apart := false }
def FnCeilMatchesTruncModelSaid : Prop := fnCeilMatchesTruncModelRow.holds Try.pinned (OpenSpec.ofChange fnCeilMatchesTruncModelSpec)

/-- ITS FALSE NEIGHBOUR: 'it returns false'. Refute it at one input. -/
def fnCeilMatchesTruncModelWrong : ChangeSpec := { name := "fnCeilMatchesTruncModel", fn := fun _ => fun
  | [d] => { results := [.lit (.bool false)], args := [d] }
  | _ => none }
def FnCeilMatchesTruncModelWrongFalsely : Prop := fnCeilMatchesTruncModelRow.holds Try.pinned (OpenSpec.ofChange fnCeilMatchesTruncModelWrong)

/-- 'n011_57.FnRoundMatchesHalfAwayModel': WHATEVER THE INPUT: true; the input reads as it did. -/
def fnRoundMatchesHalfAwayModelSpec : ChangeSpec := { name := "fnRoundMatchesHalfAwayModel", fn := fun _ => fun
  | [d] => { results := [.lit (.bool true)], args := [d] }
  | _ => none }
def fnRoundMatchesHalfAwayModelRow : OpenClaim := { program := "ythockcodajmkmaa", sum := "6d9ff595aeb4d654a81eeb6251fa9dd301fbeeca8cbbee401bb6bdc8b11e8d51", func := "github.com/evanw/esbuild/n011_57.FnRoundMatchesHalfAwayModel", spec := "fnRoundMatchesHalfAwayModel", inPlace := ["math.Float64bits", "math.Float64frombits"], apart := false }
def FnRoundMatchesHalfAwayModelSaid : Prop := fnRoundMatchesHalfAwayModelRow.holds Try.pinned (OpenSpec.ofChange fnRoundMatchesHalfAwayModelSpec)

/-- ITS FALSE NEIGHBOUR: 'it returns false'. Refute it at one input. -/
def fnRoundMatchesHalfAwayModelWrong : ChangeSpec := { name := "fnRoundMatchesHalfAwayModel", fn := fun _ => fun
  | [d] => { results := [.lit (.bool false)], args := [d] }
  | _ => none }
def FnRoundMatchesHalfAwayModelWrongFalsely : Prop := fnRoundMatchesHalfAwayModelRow.holds Try.pinned (OpenSpec.ofChange fnRoundMatchesHalfAwayModelWrong)

/-- 'n011_57.FnLog2OfPowerOfTwoIsExponent': WHATEVER THE INPUT: true; the input reads as it did. -/
def fnLog2OfPowerOfTwoIsExponentSpec : ChangeSpec := { name := "fnLog2OfPowerOfTwoIsExponent", fn := fun _ => fun
  | [d] => { results := [.lit (.bool true)], args := [d] }
  | _ => none }
def fnLog2OfPowerOfTwoIsExponentRow : OpenClaim := { program := "ythockcodajmkmaa", sum := "6d9ff595aeb4d654a81eeb6251fa9dd301fbeeca8cbbee401bb6bdc8b11e8d51", func := "github.com/evanw/esbuild/n011_57.FnLog2OfPowerOfTwoIsExponent", spec := "fnLog2OfPowerOfTwoIsExponent", inPlace := ["math.Float64bits", "math.Float64frombits", "math.archLog"], apart := false }
def FnLog2OfPowerOfTwoIsExponentSaid : Prop := fnLog2OfPowerOfTwoIsExponentRow.holds Try.pinned (OpenSpec.ofChange fnLog2OfPowerOfTwoIsExponentSpec)

/-- ITS FALSE NEIGHBOUR: 'it returns false'. Refute it at one input. -/
def fnLog2OfPowerOfTwoIsExponentWrong : ChangeSpec := { name := "fnLog2OfPowerOfTwoIsExponent", fn := fun _ => fun
  | [d] => { results := [.lit (.bool false)], args := [d] }
  | _ => none }
def FnLog2OfPowerOfTwoIsExponentWrongFalsely : Prop := fnLog2OfPowerOfTwoIsExponentRow.holds Try.pinned (OpenSpec.ofChange fnLog2OfPowerOfTwoIsExponentWrong)

/-- 'n011_57.FnRoundOddAndBetweenFloorCeil': WHATEVER THE INPUT: true; the input reads as it did. -/
def fnRoundOddAndBetweenFloorCeilSpec : ChangeSpec := { name := "fnRoundOddAndBetweenFloorCeil", fn := fun _ => fun
  | [d] => { results := [.lit (.bool true)], args := [d] }
  | _ => none }
def fnRoundOddAndBetweenFloorCeilRow : OpenClaim := { program := "ythockcodajmkmaa", sum := "6d9ff595aeb4d654a81eeb6251fa9dd301fbeeca8cbbee401bb6bdc8b11e8d51", func := "github.com/evanw/esbuild/n011_57.FnRoundOddAndBetweenFloorCeil", spec := "fnRoundOddAndBetweenFloorCeil", inPlace := ["math.Float64bits", "math.Float64frombits", "math.archFloor", "math.archTrunc", "math.archCeil"], apart := false }
def FnRoundOddAndBetweenFloorCeilSaid : Prop := fnRoundOddAndBetweenFloorCeilRow.holds Try.pinned (OpenSpec.ofChange fnRoundOddAndBetweenFloorCeilSpec)

/-- ITS FALSE NEIGHBOUR: 'it returns false'. Refute it at one input. -/
def fnRoundOddAndBetweenFloorCeilWrong : ChangeSpec := { name := "fnRoundOddAndBetweenFloorCeil", fn := fun _ => fun
  | [d] => { results := [.lit (.bool false)], args := [d] }
  | _ => none }
def FnRoundOddAndBetweenFloorCeilWrongFalsely : Prop := fnRoundOddAndBetweenFloorCeilRow.holds Try.pinned (OpenSpec.ofChange fnRoundOddAndBetweenFloorCeilWrong)

/- THE SECOND FORM. 'bulk': how many values and letters a reading holds, each counted each time it is reached (what is shared counts as often as it is met; a slice's spare places count too). A statement '..UptoSaid' is the law's where the arguments, and the package variables that the reading takes, are together of bulk at most 1048576: NARROWER than '..Said'. Prove '..Said' where nothing that the law and all that it calls make is longer than what came in: it says more and counts as full. Else prove '..UptoSaid'. A law counts once. -/
mutual
def uptoBulk {H : Type} : DataW H → Nat
  | .lit (.string bytes) => bytes.length + 1
  | .lit _ => 1
  | .nil => 1
  | .ptr d => uptoBulk d + 1
  | .slice elems spare => uptoBulkAll elems + uptoBulkAll spare + 1
  | .agg parts => uptoBulkAll parts + 1
  | .iface _ d => uptoBulk d + 1
  | .map entries => uptoBulkEntries entries + 1
  | .held _ => 1
def uptoBulkAll {H : Type} : List (DataW H) → Nat
  | [] => 0
  | d :: r => uptoBulk d + uptoBulkAll r
def uptoBulkEntries {H : Type} : List (Lit × DataW H) → Nat
  | [] => 0
  | x :: r => uptoBulkEntry x + uptoBulkEntries r
def uptoBulkEntry {H : Type} : Lit × DataW H → Nat
  | (.string bytes, d) => bytes.length + uptoBulk d + 1
  | (_, d) => uptoBulk d + 1
 end
def uptoSmall : (H : Type) → List (DataW H) → Bool := fun _ ds => decide (uptoBulkAll ds ≤ 1048576)
def OpenSpec.upto (s : _root_.Go.ChangeSpec) : _root_.Go.OpenSpec := { _root_.Go.OpenSpec.ofChange s with cond := some uptoSmall }

/-- 'n011_57.FnCeilMatchesTruncModel', WHERE WHAT IT READS IS OF BULK AT MOST 1048576: true; the input reads as it did. -/
def fnCeilMatchesTruncModelUptoRow : OpenClaim := { program := "ythockcodajmkmaa", sum := "6d9ff595aeb4d654a81eeb6251fa9dd301fbeeca8cbbee401bb6bdc8b11e8d51", func := "github.com/evanw/esbuild/n011_57.FnCeilMatchesTruncModel", spec := "fnCeilMatchesTruncModel", inPlace := ["math.archCeil", "math.archFloor", "math.Float64bits", "math.Float64frombits", "math.archTrunc"], apart := false, narrowed := true }
def FnCeilMatchesTruncModelUptoSaid : Prop := fnCeilMatchesTruncModelUptoRow.holds Try.pinned (OpenSpec.upto fnCeilMatchesTruncModelSpec)

/-- 'n011_57.FnRoundMatchesHalfAwayModel', WHERE WHAT IT READS IS OF BULK AT MOST 1048576: true; the input reads as it did. -/
def fnRoundMatchesHalfAwayModelUptoRow : OpenClaim := { program := "ythockcodajmkmaa", sum := "6d9ff595aeb4d654a81eeb6251fa9dd301fbeeca8cbbee401bb6bdc8b11e8d51", func := "github.com/evanw/esbuild/n011_57.FnRoundMatchesHalfAwayModel", spec := "fnRoundMatchesHalfAwayModel", inPlace := ["math.Float64bits", "math.Float64frombits"], apart := false, narrowed := true }
def FnRoundMatchesHalfAwayModelUptoSaid : Prop := fnRoundMatchesHalfAwayModelUptoRow.holds Try.pinned (OpenSpec.upto fnRoundMatchesHalfAwayModelSpec)

/-- 'n011_57.FnLog2OfPowerOfTwoIsExponent', WHERE WHAT IT READS IS OF BULK AT MOST 1048576: true; the input reads as it did. -/
def fnLog2OfPowerOfTwoIsExponentUptoRow : OpenClaim := { program := "ythockcodajmkmaa", sum := "6d9ff595aeb4d654a81eeb6251fa9dd301fbeeca8cbbee401bb6bdc8b11e8d51", func := "github.com/evanw/esbuild/n011_57.FnLog2OfPowerOfTwoIsExponent", spec := "fnLog2OfPowerOfTwoIsExponent", inPlace := ["math.Float64bits", "math.Float64frombits", "math.archLog"], apart := false, narrowed := true }
def FnLog2OfPowerOfTwoIsExponentUptoSaid : Prop := fnLog2OfPowerOfTwoIsExponentUptoRow.holds Try.pinned (OpenSpec.upto fnLog2OfPowerOfTwoIsExponentSpec)

/-- 'n011_57.FnRoundOddAndBetweenFloorCeil', WHERE WHAT IT READS IS OF BULK AT MOST 1048576: true; the input reads as it did. -/
def fnRoundOddAndBetweenFloorCeilUptoRow : OpenClaim := { program := "ythockcodajmkmaa", sum := "6d9ff595aeb4d654a81eeb6251fa9dd301fbeeca8cbbee401bb6bdc8b11e8d51", func := "github.com/evanw/esbuild/n011_57.FnRoundOddAndBetweenFloorCeil", spec := "fnRoundOddAndBetweenFloorCeil", inPlace := ["math.Float64bits", "math.Float64frombits", "math.archFloor", "math.archTrunc", "math.archCeil"], apart := false, narrowed := true }
def FnRoundOddAndBetweenFloorCeilUptoSaid : Prop := fnRoundOddAndBetweenFloorCeilUptoRow.holds Try.pinned (OpenSpec.upto fnRoundOddAndBetweenFloorCeilSpec)

end Rows
end Go.Proofs.Ythockcodajmkmaa
