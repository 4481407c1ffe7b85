/- The law as the frame wants it, and a world that holds the two tables. -/
import Derived.Test.YtnccjpkeaapefaaFmtKg
import Derived.Test.YtnccjpkeaapefaaFmtTie
import Derived.Lib.LaidIn
import Derived.ProofKit
import Derived.Deep.DeepWitnessRowRef
namespace Go.Proofs.YtnccjpkeaapefaaFmt
open Go.Lib
def accCells : Array Value := #[.int .u8 128, .int .u8 191, .int .u8 160, .int .u8 191, .int .u8 128, .int .u8 159, .int .u8 144, .int .u8 191, .int .u8 128, .int .u8 143, .int .u8 0, .int .u8 0, .int .u8 0, .int .u8 0, .int .u8 0, .int .u8 0, .int .u8 0, .int .u8 0, .int .u8 0, .int .u8 0, .int .u8 0, .int .u8 0, .int .u8 0, .int .u8 0, .int .u8 0, .int .u8 0, .int .u8 0, .int .u8 0, .int .u8 0, .int .u8 0, .int .u8 0, .int .u8 0]
def firstCells : Array Value := (Go.Pinned.utf8FirstZ.map (fun (n : Nat) => Value.int .u8 (n : Int))).toArray
def layIn (cs : Array Value) : Obj → Obj
  | .cells _ t frozen => .cells cs t frozen
  | o => o
noncomputable def laidWorld (os : Os) : World :=
  { World.holding Tryf.prog os ⟨#[], #[], []⟩ with heap := ((World.holding Tryf.prog os ⟨#[], #[], []⟩).heap.modify 1 (layIn accCells)).modify 0 (layIn firstCells) }
theorem g0 : Tryf.prog.globalNamed "unicode/utf8.first" = some 0 := by kernel_rfl
theorem g1 : Tryf.prog.globalNamed "unicode/utf8.acceptRanges" = some 1 := by kernel_rfl
set_option maxRecDepth 1000000 in
theorem laid_in (os : Os) (args : Array Value) : LaidIn Tryf.prog ((laidWorld os).forCall (fun _ _ => 0) ⟨#[], args, []⟩).memory Rows.fnKeepNamesVerdictHangsOnlyOnKeepNamesAndTheBitRow.laid [1, 0] :=
  LaidIn.of_run [1, 0] 10 (by kernel_rfl) (by kernel_rfl) (by kernel_rfl) (by kernel_rfl)
theorem laid_met (os : Os) (args : Array Value) : laidMet Tryf.prog Rows.fnKeepNamesVerdictHangsOnlyOnKeepNamesAndTheBitRow.laid ((laidWorld os).forCall (fun _ _ => 0) ⟨#[], args, []⟩).memory := (laid_in os args).met
namespace fnKeepNamesVerdictHangsOnlyOnKeepNamesAndTheBit
open Go.RowKit Go.Extern.Stop Go.Stop Go.Extern
theorem nat_of_wf {x : Int} (h : (Lit.int .u64 x).wf = true) : ∃ n : Nat, x = (n : Int) := by
  refine Int.eq_ofNat_of_zero_le ?_
  have e1 : IntKind.u64.min = 0 := rfl
  have e2 : IntKind.u64.max = 18446744073709551615 := rfl
  simp [Lit.wf, e1, e2] at h
  omega
theorem walk (F : Interp) (a0 : Bool) (a1 a2 : Int) (a3 a4 : ByteArray) (a5 a6 : Int) (w : World) (w1 : (Lit.int .u64 a1).wf = true) (w2 : (Lit.int .u64 a2).wf = true) (w3 : a3.size ≤ maxLen) (w4 : a4.size ≤ maxLen) (w5 : (Lit.int .u64 a5).wf = true) (w6 : (Lit.int .u64 a6).wf = true) (hF : F.told.answers w.tape) :
    Calls Tryf.prog 3 #[.bool a0, .int .u64 a1, .int .u64 a2, .string a3, .string a4, .int .u64 a5, .int .u64 a6] w fun e w' => e = .returned (.bool true) ∧ Below w.heap.size w w' := by
  obtain ⟨n1, rfl⟩ := nat_of_wf w1
  obtain ⟨n2, rfl⟩ := nat_of_wf w2
  obtain ⟨n5, rfl⟩ := nat_of_wf w5
  obtain ⟨n6, rfl⟩ := nat_of_wf w6
  exact law F a0 n1 n2 a3 a4 n5 n6 w w3 w4 hF
end fnKeepNamesVerdictHangsOnlyOnKeepNamesAndTheBit
end Go.Proofs.YtnccjpkeaapefaaFmt
