/-
  No cell of these rows narrows 'for every input' (looked for: loops, veiled, ifaces, maps, wideKeys, modest, calm, conditions, laid).
  DERIVED. THE GIVEN ROWS OF THIS SEAT. 4 by the template 'for every input the law returns true; each argument reads behind the call as it read before'; 0 by the template 'total and deterministic' (their statements: YtoklpahpoabelaaTotals.lean).
  GIVEN WITH THE SEED: the statements are not yours to turn. If you find one false, say at which input.
  Laid BY PROGRAM, IN A SANDBOX (cutbox-rows.mjs): the forced cells as the released guide's own fill.sh prints them over the translation b445f65ce9294a9f… (all of the seat's roots in one cut). By AI agents, Wed Nov 11 2026. No macro, syntax, notation, axiom, sorry.
-/
import Derived.Test.YtoklpahpoabelaaChecked
import GoSem.Claim
import GoSem.ClaimJoined
import GoSem.ClaimMapViews
import Derived.JoinedTies
import Derived.KernelRfl
namespace Go.Proofs.Ytoklpahpoabelaa
/- THE CELL 'sum', in the pinned program and in every row, IS THE sha256 OF THE DUMP (.gsa) THAT YtoklpahpoabelaaProg.lean LOADS. Nothing in Lean hashes anything: it is a label: what it is worth is what the hold of that sum in a sandbox is worth. -/
noncomputable def Try.pinned : Pinned := { name := "ytoklpahpoabelaa", sum := "b445f65ce9294a9f551921a8a32d1f7210fe49de68a440f728dc675accd4511b", checked := Try.checked }
namespace Rows
def none {H : Type} : Left H := { results := [], args := [] }

/-- 'n011_51.FnIsNaNExact': WHATEVER THE INPUT: true; the input reads as it did. -/
def fnIsNaNExactSpec : ChangeSpec := { name := "fnIsNaNExact", fn := fun _ => fun
  | [d] => { results := [.lit (.bool true)], args := [d] }
  | _ => none }
def fnIsNaNExactRow : OpenClaim := { program := "ytoklpahpoabelaa", sum := "b445f65ce9294a9f551921a8a32d1f7210fe49de68a440f728dc675accd4511b", func := "github.com/evanw/esbuild/n011_51.FnIsNaNExact", spec := "fnIsNaNExact", apart := false }
def FnIsNaNExactSaid : Prop := fnIsNaNExactRow.holds Try.pinned (OpenSpec.ofChange fnIsNaNExactSpec)

/-- ITS FALSE NEIGHBOUR: 'it returns false'. Refute it at one input. -/
def fnIsNaNExactWrong : ChangeSpec := { name := "fnIsNaNExact", fn := fun _ => fun
  | [d] => { results := [.lit (.bool false)], args := [d] }
  | _ => none }
def FnIsNaNExactWrongFalsely : Prop := fnIsNaNExactRow.holds Try.pinned (OpenSpec.ofChange fnIsNaNExactWrong)

/-- 'n011_51.FnNewF64ValueRoundTrip': WHATEVER THE INPUT: true; the input reads as it did. -/
def fnNewF64ValueRoundTripSpec : ChangeSpec := { name := "fnNewF64ValueRoundTrip", fn := fun _ => fun
  | [d] => { results := [.lit (.bool true)], args := [d] }
  | _ => none }
def fnNewF64ValueRoundTripRow : OpenClaim := { program := "ytoklpahpoabelaa", sum := "b445f65ce9294a9f551921a8a32d1f7210fe49de68a440f728dc675accd4511b", func := "github.com/evanw/esbuild/n011_51.FnNewF64ValueRoundTrip", spec := "fnNewF64ValueRoundTrip", apart := false }
def FnNewF64ValueRoundTripSaid : Prop := fnNewF64ValueRoundTripRow.holds Try.pinned (OpenSpec.ofChange fnNewF64ValueRoundTripSpec)

/-- ITS FALSE NEIGHBOUR: 'it returns false'. Refute it at one input. -/
def fnNewF64ValueRoundTripWrong : ChangeSpec := { name := "fnNewF64ValueRoundTrip", fn := fun _ => fun
  | [d] => { results := [.lit (.bool false)], args := [d] }
  | _ => none }
def FnNewF64ValueRoundTripWrongFalsely : Prop := fnNewF64ValueRoundTripRow.holds Try.pinned (OpenSpec.ofChange fnNewF64ValueRoundTripWrong)

/-- 'n011_51.FnIsNaNOfSumExact': WHATEVER THE INPUT: true; the input reads as it did. -/
def fnIsNaNOfSumExactSpec : ChangeSpec := { name := "fnIsNaNOfSumExact", fn := fun _ => fun
  | [d1, d2] => { results := [.lit (.bool true)], args := [d1, d2] }
  | _ => none }
def fnIsNaNOfSumExactRow : OpenClaim := { program := "ytoklpahpoabelaa", sum := "b445f65ce9294a9f551921a8a32d1f7210fe49de68a440f728dc675accd4511b", func := "github.com/evanw/esbuild/n011_51.FnIsNaNOfSumExact", spec := "fnIsNaNOfSumExact", apart := false }
def FnIsNaNOfSumExactSaid : Prop := fnIsNaNOfSumExactRow.holds Try.pinned (OpenSpec.ofChange fnIsNaNOfSumExactSpec)

/-- ITS FALSE NEIGHBOUR: 'it returns false'. Refute it at one input. -/
def fnIsNaNOfSumExactWrong : ChangeSpec := { name := "fnIsNaNOfSumExact", fn := fun _ => fun
  | [d1, d2] => { results := [.lit (.bool false)], args := [d1, d2] }
  | _ => none }
def FnIsNaNOfSumExactWrongFalsely : Prop := fnIsNaNOfSumExactRow.holds Try.pinned (OpenSpec.ofChange fnIsNaNOfSumExactWrong)

/-- 'n011_51.FnIsHexCaseFoldAndAsciiOnly': WHATEVER THE INPUT: true; the input reads as it did. -/
def fnIsHexCaseFoldAndAsciiOnlySpec : ChangeSpec := { name := "fnIsHexCaseFoldAndAsciiOnly", fn := fun _ => fun
  | [d] => { results := [.lit (.bool true)], args := [d] }
  | _ => none }
def fnIsHexCaseFoldAndAsciiOnlyRow : OpenClaim := { program := "ytoklpahpoabelaa", sum := "b445f65ce9294a9f551921a8a32d1f7210fe49de68a440f728dc675accd4511b", func := "github.com/evanw/esbuild/n011_51.FnIsHexCaseFoldAndAsciiOnly", spec := "fnIsHexCaseFoldAndAsciiOnly", apart := false }
def FnIsHexCaseFoldAndAsciiOnlySaid : Prop := fnIsHexCaseFoldAndAsciiOnlyRow.holds Try.pinned (OpenSpec.ofChange fnIsHexCaseFoldAndAsciiOnlySpec)

/-- ITS FALSE NEIGHBOUR: 'it returns false'. Refute it at one input. -/
def fnIsHexCaseFoldAndAsciiOnlyWrong : ChangeSpec := { name := "fnIsHexCaseFoldAndAsciiOnly", fn := fun _ => fun
  | [d] => { results := [.lit (.bool false)], args := [d] }
  | _ => none }
def FnIsHexCaseFoldAndAsciiOnlyWrongFalsely : Prop := fnIsHexCaseFoldAndAsciiOnlyRow.holds Try.pinned (OpenSpec.ofChange fnIsHexCaseFoldAndAsciiOnlyWrong)

/- THE SECOND FORM. 'bulk': how many values and letters a reading holds, each counted each time it is reached (what is shared counts as often as it is met; a slice's spare places count too). A statement '..UptoSaid' is the law's where the arguments, and the package variables that the reading takes, are together of bulk at most 1048576: NARROWER than '..Said'. Prove '..Said' where nothing that the law and all that it calls make is longer than what came in: it says more and counts as full. Else prove '..UptoSaid'. A law counts once. -/
mutual
def uptoBulk {H : Type} : DataW H → Nat
  | .lit (.string bytes) => bytes.length + 1
  | .lit _ => 1
  | .nil => 1
  | .ptr d => uptoBulk d + 1
  | .slice elems spare => uptoBulkAll elems + uptoBulkAll spare + 1
  | .agg parts => uptoBulkAll parts + 1
  | .iface _ d => uptoBulk d + 1
  | .map entries => uptoBulkEntries entries + 1
  | .held _ => 1
def uptoBulkAll {H : Type} : List (DataW H) → Nat
  | [] => 0
  | d :: r => uptoBulk d + uptoBulkAll r
def uptoBulkEntries {H : Type} : List (Lit × DataW H) → Nat
  | [] => 0
  | x :: r => uptoBulkEntry x + uptoBulkEntries r
def uptoBulkEntry {H : Type} : Lit × DataW H → Nat
  | (.string bytes, d) => bytes.length + uptoBulk d + 1
  | (_, d) => uptoBulk d + 1
 end
def uptoSmall : (H : Type) → List (DataW H) → Bool := fun _ ds => decide (uptoBulkAll ds ≤ 1048576)
def OpenSpec.upto (s : _root_.Go.ChangeSpec) : _root_.Go.OpenSpec := { _root_.Go.OpenSpec.ofChange s with cond := some uptoSmall }

/-- 'n011_51.FnIsNaNExact', WHERE WHAT IT READS IS OF BULK AT MOST 1048576: true; the input reads as it did. -/
def fnIsNaNExactUptoRow : OpenClaim := { program := "ytoklpahpoabelaa", sum := "b445f65ce9294a9f551921a8a32d1f7210fe49de68a440f728dc675accd4511b", func := "github.com/evanw/esbuild/n011_51.FnIsNaNExact", spec := "fnIsNaNExact", apart := false, narrowed := true }
def FnIsNaNExactUptoSaid : Prop := fnIsNaNExactUptoRow.holds Try.pinned (OpenSpec.upto fnIsNaNExactSpec)

/-- 'n011_51.FnNewF64ValueRoundTrip', WHERE WHAT IT READS IS OF BULK AT MOST 1048576: true; the input reads as it did. -/
def fnNewF64ValueRoundTripUptoRow : OpenClaim := { program := "ytoklpahpoabelaa", sum := "b445f65ce9294a9f551921a8a32d1f7210fe49de68a440f728dc675accd4511b", func := "github.com/evanw/esbuild/n011_51.FnNewF64ValueRoundTrip", spec := "fnNewF64ValueRoundTrip", apart := false, narrowed := true }
def FnNewF64ValueRoundTripUptoSaid : Prop := fnNewF64ValueRoundTripUptoRow.holds Try.pinned (OpenSpec.upto fnNewF64ValueRoundTripSpec)

/-- 'n011_51.FnIsNaNOfSumExact', WHERE WHAT IT READS IS OF BULK AT MOST 1048576: true; the input reads as it did. -/
def fnIsNaNOfSumExactUptoRow : OpenClaim := { program := "ytoklpahpoabelaa", sum := "b445f65ce9294a9f551921a8a32d1f7210fe49de68a440f728dc675accd4511b", func := "github.com/evanw/esbuild/n011_51.FnIsNaNOfSumExact", spec := "fnIsNaNOfSumExact", apart := false, narrowed := true }
def FnIsNaNOfSumExactUptoSaid : Prop := fnIsNaNOfSumExactUptoRow.holds Try.pinned (OpenSpec.upto fnIsNaNOfSumExactSpec)

/-- 'n011_51.FnIsHexCaseFoldAndAsciiOnly', WHERE WHAT IT READS IS OF BULK AT MOST 1048576: true; the input reads as it did. -/
def fnIsHexCaseFoldAndAsciiOnlyUptoRow : OpenClaim := { program := "ytoklpahpoabelaa", sum := "b445f65ce9294a9f551921a8a32d1f7210fe49de68a440f728dc675accd4511b", func := "github.com/evanw/esbuild/n011_51.FnIsHexCaseFoldAndAsciiOnly", spec := "fnIsHexCaseFoldAndAsciiOnly", apart := false, narrowed := true }
def FnIsHexCaseFoldAndAsciiOnlyUptoSaid : Prop := fnIsHexCaseFoldAndAsciiOnlyUptoRow.holds Try.pinned (OpenSpec.upto fnIsHexCaseFoldAndAsciiOnlySpec)

end Rows
end Go.Proofs.Ytoklpahpoabelaa
