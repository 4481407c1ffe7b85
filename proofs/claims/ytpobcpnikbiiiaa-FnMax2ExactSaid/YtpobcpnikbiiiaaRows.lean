/-
  No cell of these rows narrows 'for every input' (looked for: loops, veiled, ifaces, maps, wideKeys, modest, calm, conditions, laid).
  DERIVED. THE GIVEN ROWS OF THIS SEAT. 4 by the template 'for every input the law returns true; each argument reads behind the call as it read before'; 0 by the template 'total and deterministic' (their statements: YtpobcpnikbiiiaaTotals.lean).
  GIVEN WITH THE SEED: the statements are not yours to turn. If you find one false, say at which input.
  Laid BY PROGRAM, IN A SANDBOX (cutbox-rows.mjs): the forced cells as the released guide's own fill.sh prints them over the translation c6f4ace649c9c7ac… (all of the seat's roots in one cut). By AI agents, Wed Nov 11 2026. No macro, syntax, notation, axiom, sorry.
-/
import Derived.Test.YtpobcpnikbiiiaaChecked
import GoSem.Claim
import GoSem.ClaimJoined
import GoSem.ClaimMapViews
import Derived.JoinedTies
import Derived.KernelRfl
namespace Go.Proofs.Ytpobcpnikbiiiaa
/- THE CELL 'sum', in the pinned program and in every row, IS THE sha256 OF THE DUMP (.gsa) THAT YtpobcpnikbiiiaaProg.lean LOADS. Nothing in Lean hashes anything: it is a label: what it is worth is what the hold of that sum in a sandbox is worth. -/
noncomputable def Try.pinned : Pinned := { name := "ytpobcpnikbiiiaa", sum := "c6f4ace649c9c7ac264057c9cd1cb116c556beef087e94f1da2fbf8308d4d0a2", checked := Try.checked }
namespace Rows
def none {H : Type} : Left H := { results := [], args := [] }

/-- 'n011_195.FnMax2DualOfMin2': WHATEVER THE INPUT: true; the input reads as it did. -/
def fnMax2DualOfMin2Spec : ChangeSpec := { name := "fnMax2DualOfMin2", fn := fun _ => fun
  | [d1, d2] => { results := [.lit (.bool true)], args := [d1, d2] }
  | _ => none }
def fnMax2DualOfMin2Row : OpenClaim := { program := "ytpobcpnikbiiiaa", sum := "c6f4ace649c9c7ac264057c9cd1cb116c556beef087e94f1da2fbf8308d4d0a2", func := "github.com/evanw/esbuild/n011_195.FnMax2DualOfMin2", spec := "fnMax2DualOfMin2", inPlace := ["math.archMax", "math.Float64bits", "math.Float64frombits", "math.archMin"], apart := false }
def FnMax2DualOfMin2Said : Prop := fnMax2DualOfMin2Row.holds Try.pinned (OpenSpec.ofChange fnMax2DualOfMin2Spec)

/-- ITS FALSE NEIGHBOUR: 'it returns false'. Refute it at one input. -/
def fnMax2DualOfMin2Wrong : ChangeSpec := { name := "fnMax2DualOfMin2", fn := fun _ => fun
  | [d1, d2] => { results := [.lit (.bool false)], args := [d1, d2] }
  | _ => none }
def FnMax2DualOfMin2WrongFalsely : Prop := fnMax2DualOfMin2Row.holds Try.pinned (OpenSpec.ofChange fnMax2DualOfMin2Wrong)

/-- 'n011_195.FnMax3DualOfMin3': WHATEVER THE INPUT: true; the input reads as it did. -/
def fnMax3DualOfMin3Spec : ChangeSpec := { name := "fnMax3DualOfMin3", fn := fun _ => fun
  | [d1, d2, d3] => { results := [.lit (.bool true)], args := [d1, d2, d3] }
  | _ => none }
def fnMax3DualOfMin3Row : OpenClaim := { program := "ytpobcpnikbiiiaa", sum := "c6f4ace649c9c7ac264057c9cd1cb116c556beef087e94f1da2fbf8308d4d0a2", func := "github.com/evanw/esbuild/n011_195.FnMax3DualOfMin3", spec := "fnMax3DualOfMin3", inPlace := ["math.archMax", "math.Float64bits", "math.Float64frombits", "math.archMin"], apart := false }
def FnMax3DualOfMin3Said : Prop := fnMax3DualOfMin3Row.holds Try.pinned (OpenSpec.ofChange fnMax3DualOfMin3Spec)

/-- ITS FALSE NEIGHBOUR: 'it returns false'. Refute it at one input. -/
def fnMax3DualOfMin3Wrong : ChangeSpec := { name := "fnMax3DualOfMin3", fn := fun _ => fun
  | [d1, d2, d3] => { results := [.lit (.bool false)], args := [d1, d2, d3] }
  | _ => none }
def FnMax3DualOfMin3WrongFalsely : Prop := fnMax3DualOfMin3Row.holds Try.pinned (OpenSpec.ofChange fnMax3DualOfMin3Wrong)

/-- 'n011_195.FnMax2Exact': WHATEVER THE INPUT: true; the input reads as it did. -/
def fnMax2ExactSpec : ChangeSpec := { name := "fnMax2Exact", fn := fun _ => fun
  | [d1, d2] => { results := [.lit (.bool true)], args := [d1, d2] }
  | _ => none }
def fnMax2ExactRow : OpenClaim := { program := "ytpobcpnikbiiiaa", sum := "c6f4ace649c9c7ac264057c9cd1cb116c556beef087e94f1da2fbf8308d4d0a2", func := "github.com/evanw/esbuild/n011_195.FnMax2Exact", spec := "fnMax2Exact", inPlace := ["math.archMax", "math.Float64bits", "math.Float64frombits"], apart := false }
def FnMax2ExactSaid : Prop := fnMax2ExactRow.holds Try.pinned (OpenSpec.ofChange fnMax2ExactSpec)

/-- ITS FALSE NEIGHBOUR: 'it returns false'. Refute it at one input. -/
def fnMax2ExactWrong : ChangeSpec := { name := "fnMax2Exact", fn := fun _ => fun
  | [d1, d2] => { results := [.lit (.bool false)], args := [d1, d2] }
  | _ => none }
def FnMax2ExactWrongFalsely : Prop := fnMax2ExactRow.holds Try.pinned (OpenSpec.ofChange fnMax2ExactWrong)

/-- 'n011_195.FnMax3Exact': WHATEVER THE INPUT: true; the input reads as it did. -/
def fnMax3ExactSpec : ChangeSpec := { name := "fnMax3Exact", fn := fun _ => fun
  | [d1, d2, d3] => { results := [.lit (.bool true)], args := [d1, d2, d3] }
  | _ => none }
def fnMax3ExactRow : OpenClaim := { program := "ytpobcpnikbiiiaa", sum := "c6f4ace649c9c7ac264057c9cd1cb116c556beef087e94f1da2fbf8308d4d0a2", func := "github.com/evanw/esbuild/n011_195.FnMax3Exact", spec := "fnMax3Exact", inPlace := ["math.archMax", "math.Float64bits", "math.Float64frombits"], apart := false }
def FnMax3ExactSaid : Prop := fnMax3ExactRow.holds Try.pinned (OpenSpec.ofChange fnMax3ExactSpec)

/-- ITS FALSE NEIGHBOUR: 'it returns false'. Refute it at one input. -/
def fnMax3ExactWrong : ChangeSpec := { name := "fnMax3Exact", fn := fun _ => fun
  | [d1, d2, d3] => { results := [.lit (.bool false)], args := [d1, d2, d3] }
  | _ => none }
def FnMax3ExactWrongFalsely : Prop := fnMax3ExactRow.holds Try.pinned (OpenSpec.ofChange fnMax3ExactWrong)

/- THE SECOND FORM. 'bulk': how many values and letters a reading holds, each counted each time it is reached (what is shared counts as often as it is met; a slice's spare places count too). A statement '..UptoSaid' is the law's where the arguments, and the package variables that the reading takes, are together of bulk at most 1048576: NARROWER than '..Said'. Prove '..Said' where nothing that the law and all that it calls make is longer than what came in: it says more and counts as full. Else prove '..UptoSaid'. A law counts once. -/
mutual
def uptoBulk {H : Type} : DataW H → Nat
  | .lit (.string bytes) => bytes.length + 1
  | .lit _ => 1
  | .nil => 1
  | .ptr d => uptoBulk d + 1
  | .slice elems spare => uptoBulkAll elems + uptoBulkAll spare + 1
  | .agg parts => uptoBulkAll parts + 1
  | .iface _ d => uptoBulk d + 1
  | .map entries => uptoBulkEntries entries + 1
  | .held _ => 1
def uptoBulkAll {H : Type} : List (DataW H) → Nat
  | [] => 0
  | d :: r => uptoBulk d + uptoBulkAll r
def uptoBulkEntries {H : Type} : List (Lit × DataW H) → Nat
  | [] => 0
  | x :: r => uptoBulkEntry x + uptoBulkEntries r
def uptoBulkEntry {H : Type} : Lit × DataW H → Nat
  | (.string bytes, d) => bytes.length + uptoBulk d + 1
  | (_, d) => uptoBulk d + 1
 end
def uptoSmall : (H : Type) → List (DataW H) → Bool := fun _ ds => decide (uptoBulkAll ds ≤ 1048576)
def OpenSpec.upto (s : _root_.Go.ChangeSpec) : _root_.Go.OpenSpec := { _root_.Go.OpenSpec.ofChange s with cond := some uptoSmall }

/-- 'n011_195.FnMax2DualOfMin2', WHERE WHAT IT READS IS OF BULK AT MOST 1048576: true; the input reads as it did. -/
def fnMax2DualOfMin2UptoRow : OpenClaim := { program := "ytpobcpnikbiiiaa", sum := "c6f4ace649c9c7ac264057c9cd1cb116c556beef087e94f1da2fbf8308d4d0a2", func := "github.com/evanw/esbuild/n011_195.FnMax2DualOfMin2", spec := "fnMax2DualOfMin2", inPlace := ["math.archMax", "math.Float64bits", "math.Float64frombits", "math.archMin"], apart := false, narrowed := true }
def FnMax2DualOfMin2UptoSaid : Prop := fnMax2DualOfMin2UptoRow.holds Try.pinned (OpenSpec.upto fnMax2DualOfMin2Spec)

/-- 'n011_195.FnMax3DualOfMin3', WHERE WHAT IT READS IS OF BULK AT MOST 1048576: true; the input reads as it did. -/
def fnMax3DualOfMin3UptoRow : OpenClaim := { program := "ytpobcpnikbiiiaa", sum := "c6f4ace649c9c7ac264057c9cd1cb116c556beef087e94f1da2fbf8308d4d0a2", func := "github.com/evanw/esbuild/n011_195.FnMax3DualOfMin3", spec := "fnMax3DualOfMin3", inPlace := ["math.archMax", "math.Float64bits", "math.Float64frombits", "math.archMin"], apart := false, narrowed := true }
def FnMax3DualOfMin3UptoSaid : Prop := fnMax3DualOfMin3UptoRow.holds Try.pinned (OpenSpec.upto fnMax3DualOfMin3Spec)

/-- 'n011_195.FnMax2Exact', WHERE WHAT IT READS IS OF BULK AT MOST 1048576: true; the input reads as it did. -/
def fnMax2ExactUptoRow : OpenClaim := { program := "ytpobcpnikbiiiaa", sum := "c6f4ace649c9c7ac264057c9cd1cb116c556beef087e94f1da2fbf8308d4d0a2", func := "github.com/evanw/esbuild/n011_195.FnMax2Exact", spec := "fnMax2Exact", inPlace := ["math.archMax", "math.Float64bits", "math.Float64frombits"], apart := false, narrowed := true }
def FnMax2ExactUptoSaid : Prop := fnMax2ExactUptoRow.holds Try.pinned (OpenSpec.upto fnMax2ExactSpec)

/-- 'n011_195.FnMax3Exact', WHERE WHAT IT READS IS OF BULK AT MOST 1048576: true; the input reads as it did. -/
def fnMax3ExactUptoRow : OpenClaim := { program := "ytpobcpnikbiiiaa", sum := "c6f4ace649c9c7ac264057c9cd1cb116c556beef087e94f1da2fbf8308d4d0a2", func := "github.com/evanw/esbuild/n011_195.FnMax3Exact", spec := "fnMax3Exact", inPlace := ["math.archMax", "math.Float64bits", "math.Float64frombits"], apart := false, narrowed := true }
def FnMax3ExactUptoSaid : Prop := fnMax3ExactUptoRow.holds Try.pinned (OpenSpec.upto fnMax3ExactSpec)

end Rows
end Go.Proofs.Ytpobcpnikbiiiaa
