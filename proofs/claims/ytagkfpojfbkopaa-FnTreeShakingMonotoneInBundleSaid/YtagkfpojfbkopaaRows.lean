/-
  No cell of these rows narrows 'for every input' (looked for: loops, veiled, ifaces, maps, wideKeys, modest, calm, conditions, laid).
  DERIVED. THE GIVEN ROWS OF THIS SEAT. 4 by the template 'for every input the law returns true; each argument reads behind the call as it read before'; 0 by the template 'total and deterministic' (their statements: YtagkfpojfbkopaaTotals.lean).
  GIVEN WITH THE SEED: the statements are not yours to turn. If you find one false, say at which input.
  Laid BY PROGRAM, IN A SANDBOX (cutbox-rows.mjs): the forced cells as the released guide's own fill.sh prints them over the translation 05e0abd569545dd7… (all of the seat's roots in one cut). By AI agents, Wed Nov 11 2026. No macro, syntax, notation, axiom, sorry.
-/
import Derived.Test.YtagkfpojfbkopaaChecked
import GoSem.Claim
import GoSem.ClaimJoined
import GoSem.ClaimMapViews
import Derived.JoinedTies
import Derived.KernelRfl
namespace Go.Proofs.Ytagkfpojfbkopaa
/- THE CELL 'sum', in the pinned program and in every row, IS THE sha256 OF THE DUMP (.gsa) THAT YtagkfpojfbkopaaProg.lean LOADS. Nothing in Lean hashes anything: it is a label: what it is worth is what the hold of that sum in a sandbox is worth. -/
noncomputable def Try.pinned : Pinned := { name := "ytagkfpojfbkopaa", sum := "05e0abd569545dd70c07932ba46f0b55e57580177ac82cb9e0f487aa9fd8ba8e", checked := Try.checked }
namespace Rows
def none {H : Type} : Left H := { results := [], args := [] }

/-- 'n011_174.FnASCIIOnlyDefaultIsASCII': WHATEVER THE INPUT: true; the input reads as it did. -/
def fnASCIIOnlyDefaultIsASCIISpec : ChangeSpec := { name := "fnASCIIOnlyDefaultIsASCII", fn := fun _ => fun
  | [] => { results := [.lit (.bool true)], args := [] }
  | _ => none }
def fnASCIIOnlyDefaultIsASCIIRow : OpenClaim := { program := "ytagkfpojfbkopaa", sum := "05e0abd569545dd70c07932ba46f0b55e57580177ac82cb9e0f487aa9fd8ba8e", func := "github.com/evanw/esbuild/n011_174.FnASCIIOnlyDefaultIsASCII", spec := "fnASCIIOnlyDefaultIsASCII", apart := false }
def FnASCIIOnlyDefaultIsASCIISaid : Prop := fnASCIIOnlyDefaultIsASCIIRow.holds Try.pinned (OpenSpec.ofChange fnASCIIOnlyDefaultIsASCIISpec)

/-- ITS FALSE NEIGHBOUR: 'it returns false'. Refute it at one input. -/
def fnASCIIOnlyDefaultIsASCIIWrong : ChangeSpec := { name := "fnASCIIOnlyDefaultIsASCII", fn := fun _ => fun
  | [] => { results := [.lit (.bool false)], args := [] }
  | _ => none }
def FnASCIIOnlyDefaultIsASCIIWrongFalsely : Prop := fnASCIIOnlyDefaultIsASCIIRow.holds Try.pinned (OpenSpec.ofChange fnASCIIOnlyDefaultIsASCIIWrong)

/-- 'n011_174.FnLoaderInjective': WHATEVER THE INPUT: true; the input reads as it did. -/
def fnLoaderInjectiveSpec : ChangeSpec := { name := "fnLoaderInjective", fn := fun _ => fun
  | [d1, d2] => { results := [.lit (.bool true)], args := [d1, d2] }
  | _ => none }
def fnLoaderInjectiveRow : OpenClaim := { program := "ytagkfpojfbkopaa", sum := "05e0abd569545dd70c07932ba46f0b55e57580177ac82cb9e0f487aa9fd8ba8e", func := "github.com/evanw/esbuild/n011_174.FnLoaderInjective", spec := "fnLoaderInjective", apart := false }
def FnLoaderInjectiveSaid : Prop := fnLoaderInjectiveRow.holds Try.pinned (OpenSpec.ofChange fnLoaderInjectiveSpec)

/-- ITS FALSE NEIGHBOUR: 'it returns false'. Refute it at one input. -/
def fnLoaderInjectiveWrong : ChangeSpec := { name := "fnLoaderInjective", fn := fun _ => fun
  | [d1, d2] => { results := [.lit (.bool false)], args := [d1, d2] }
  | _ => none }
def FnLoaderInjectiveWrongFalsely : Prop := fnLoaderInjectiveRow.holds Try.pinned (OpenSpec.ofChange fnLoaderInjectiveWrong)

/-- 'n011_174.FnExternalPackagesTable': WHATEVER THE INPUT: true; the input reads as it did. -/
def fnExternalPackagesTableSpec : ChangeSpec := { name := "fnExternalPackagesTable", fn := fun _ => fun
  | [d] => { results := [.lit (.bool true)], args := [d] }
  | _ => none }
def fnExternalPackagesTableRow : OpenClaim := { program := "ytagkfpojfbkopaa", sum := "05e0abd569545dd70c07932ba46f0b55e57580177ac82cb9e0f487aa9fd8ba8e", func := "github.com/evanw/esbuild/n011_174.FnExternalPackagesTable", spec := "fnExternalPackagesTable", apart := false }
def FnExternalPackagesTableSaid : Prop := fnExternalPackagesTableRow.holds Try.pinned (OpenSpec.ofChange fnExternalPackagesTableSpec)

/-- ITS FALSE NEIGHBOUR: 'it returns false'. Refute it at one input. -/
def fnExternalPackagesTableWrong : ChangeSpec := { name := "fnExternalPackagesTable", fn := fun _ => fun
  | [d] => { results := [.lit (.bool false)], args := [d] }
  | _ => none }
def FnExternalPackagesTableWrongFalsely : Prop := fnExternalPackagesTableRow.holds Try.pinned (OpenSpec.ofChange fnExternalPackagesTableWrong)

/-- 'n011_174.FnTreeShakingMonotoneInBundle': WHATEVER THE INPUT: true; the input reads as it did. -/
def fnTreeShakingMonotoneInBundleSpec : ChangeSpec := { name := "fnTreeShakingMonotoneInBundle", fn := fun _ => fun
  | [d1, d2] => { results := [.lit (.bool true)], args := [d1, d2] }
  | _ => none }
def fnTreeShakingMonotoneInBundleRow : OpenClaim := { program := "ytagkfpojfbkopaa", sum := "05e0abd569545dd70c07932ba46f0b55e57580177ac82cb9e0f487aa9fd8ba8e", func := "github.com/evanw/esbuild/n011_174.FnTreeShakingMonotoneInBundle", spec := "fnTreeShakingMonotoneInBundle", apart := false }
def FnTreeShakingMonotoneInBundleSaid : Prop := fnTreeShakingMonotoneInBundleRow.holds Try.pinned (OpenSpec.ofChange fnTreeShakingMonotoneInBundleSpec)

/-- ITS FALSE NEIGHBOUR: 'it returns false'. Refute it at one input. -/
def fnTreeShakingMonotoneInBundleWrong : ChangeSpec := { name := "fnTreeShakingMonotoneInBundle", fn := fun _ => fun
  | [d1, d2] => { results := [.lit (.bool false)], args := [d1, d2] }
  | _ => none }
def FnTreeShakingMonotoneInBundleWrongFalsely : Prop := fnTreeShakingMonotoneInBundleRow.holds Try.pinned (OpenSpec.ofChange fnTreeShakingMonotoneInBundleWrong)

/- THE SECOND FORM. 'bulk': how many values and letters a reading holds, each counted each time it is reached (what is shared counts as often as it is met; a slice's spare places count too). A statement '..UptoSaid' is the law's where the arguments, and the package variables that the reading takes, are together of bulk at most 1048576: NARROWER than '..Said'. Prove '..Said' where nothing that the law and all that it calls make is longer than what came in: it says more and counts as full. Else prove '..UptoSaid'. A law counts once. -/
mutual
def uptoBulk {H : Type} : DataW H → Nat
  | .lit (.string bytes) => bytes.length + 1
  | .lit _ => 1
  | .nil => 1
  | .ptr d => uptoBulk d + 1
  | .slice elems spare => uptoBulkAll elems + uptoBulkAll spare + 1
  | .agg parts => uptoBulkAll parts + 1
  | .iface _ d => uptoBulk d + 1
  | .map entries => uptoBulkEntries entries + 1
  | .held _ => 1
def uptoBulkAll {H : Type} : List (DataW H) → Nat
  | [] => 0
  | d :: r => uptoBulk d + uptoBulkAll r
def uptoBulkEntries {H : Type} : List (Lit × DataW H) → Nat
  | [] => 0
  | x :: r => uptoBulkEntry x + uptoBulkEntries r
def uptoBulkEntry {H : Type} : Lit × DataW H → Nat
  | (.string bytes, d) => bytes.length + uptoBulk d + 1
  | (_, d) => uptoBulk d + 1
 end
def uptoSmall : (H : Type) → List (DataW H) → Bool := fun _ ds => decide (uptoBulkAll ds ≤ 1048576)
def OpenSpec.upto (s : _root_.Go.ChangeSpec) : _root_.Go.OpenSpec := { _root_.Go.OpenSpec.ofChange s with cond := some uptoSmall }

/-- 'n011_174.FnASCIIOnlyDefaultIsASCII', WHERE WHAT IT READS IS OF BULK AT MOST 1048576: true; the input reads as it did. -/
def fnASCIIOnlyDefaultIsASCIIUptoRow : OpenClaim := { program := "ytagkfpojfbkopaa", sum := "05e0abd569545dd70c07932ba46f0b55e57580177ac82cb9e0f487aa9fd8ba8e", func := "github.com/evanw/esbuild/n011_174.FnASCIIOnlyDefaultIsASCII", spec := "fnASCIIOnlyDefaultIsASCII", apart := false, narrowed := true }
def FnASCIIOnlyDefaultIsASCIIUptoSaid : Prop := fnASCIIOnlyDefaultIsASCIIUptoRow.holds Try.pinned (OpenSpec.upto fnASCIIOnlyDefaultIsASCIISpec)

/-- 'n011_174.FnLoaderInjective', WHERE WHAT IT READS IS OF BULK AT MOST 1048576: true; the input reads as it did. -/
def fnLoaderInjectiveUptoRow : OpenClaim := { program := "ytagkfpojfbkopaa", sum := "05e0abd569545dd70c07932ba46f0b55e57580177ac82cb9e0f487aa9fd8ba8e", func := "github.com/evanw/esbuild/n011_174.FnLoaderInjective", spec := "fnLoaderInjective", apart := false, narrowed := true }
def FnLoaderInjectiveUptoSaid : Prop := fnLoaderInjectiveUptoRow.holds Try.pinned (OpenSpec.upto fnLoaderInjectiveSpec)

/-- 'n011_174.FnExternalPackagesTable', WHERE WHAT IT READS IS OF BULK AT MOST 1048576: true; the input reads as it did. -/
def fnExternalPackagesTableUptoRow : OpenClaim := { program := "ytagkfpojfbkopaa", sum := "05e0abd569545dd70c07932ba46f0b55e57580177ac82cb9e0f487aa9fd8ba8e", func := "github.com/evanw/esbuild/n011_174.FnExternalPackagesTable", spec := "fnExternalPackagesTable", apart := false, narrowed := true }
def FnExternalPackagesTableUptoSaid : Prop := fnExternalPackagesTableUptoRow.holds Try.pinned (OpenSpec.upto fnExternalPackagesTableSpec)

/-- 'n011_174.FnTreeShakingMonotoneInBundle', WHERE WHAT IT READS IS OF BULK AT MOST 1048576: true; the input reads as it did. -/
def fnTreeShakingMonotoneInBundleUptoRow : OpenClaim := { program := "ytagkfpojfbkopaa", sum := "05e0abd569545dd70c07932ba46f0b55e57580177ac82cb9e0f487aa9fd8ba8e", func := "github.com/evanw/esbuild/n011_174.FnTreeShakingMonotoneInBundle", spec := "fnTreeShakingMonotoneInBundle", apart := false, narrowed := true }
def FnTreeShakingMonotoneInBundleUptoSaid : Prop := fnTreeShakingMonotoneInBundleUptoRow.holds Try.pinned (OpenSpec.upto fnTreeShakingMonotoneInBundleSpec)

end Rows
end Go.Proofs.Ytagkfpojfbkopaa
