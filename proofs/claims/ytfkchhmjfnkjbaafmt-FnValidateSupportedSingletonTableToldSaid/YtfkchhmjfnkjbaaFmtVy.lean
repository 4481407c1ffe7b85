/- What the laid tables hold, and a world that holds them. -/
import Derived.Test.YtfkchhmjfnkjbaaFmtVw
import Derived.Test.YtfkchhmjfnkjbaaFmtVx
import Derived.LaidMore
namespace Go.Proofs.YtfkchhmjfnkjbaaFmt
open Go.RowKit Go.Maps Go.Lib
set_option linter.unusedVariables false
/-- Every value of a table lies between 1 and M - 1. -/
def valsIn (M : Nat) (es : List (Lit × DataW Unit)) : Bool := es.all fun p => match p.2 with | .lit (.int _ x) => decide (0 < x) && decide (x < (M : Int)) | _ => false
theorem tab_in {es : List (Lit × DataW Unit)} {q : IntKind} {M : Nat} (h : valsIn M es = true) (k : Ky) (x : Nat) (hx : tabOf (.map es) q k = some x) : 0 < x ∧ x < M := by
  unfold tabOf at hx
  by_cases hh : has (.map es) (.string k) = true
  · rw [hh] at hx
    simp only [if_true] at hx
    rw [has_eq, List.any_eq_true] at hh
    unfold DataW.atKey at hx
    cases hf : es.find? (fun p => p.1.sameKey (.string k)) with
    | none =>
      obtain ⟨p, hp, hs⟩ := hh
      have := List.find?_eq_none.1 hf p hp
      exact absurd hs this
    | some p =>
      have hm := List.mem_of_find?_eq_some hf
      have hv := List.all_eq_true.1 h p hm
      simp only [hf] at hx
      split at hv
      · rename_i q' y hy
        simp only [hy, Option.some.injEq] at hx
        simp only [Bool.and_eq_true, decide_eq_true_eq] at hv
        omega
      · cases hv
  · have hf : has (.map es) (.string k) = false := by simpa using hh
    rw [hf] at hx
    simp at hx
theorem jIn (k : Ky) (x : Nat) (h : jD k = some x) : 0 < x ∧ x < 18446744073709551616 :=
  tab_in (M := 18446744073709551616) (by kernel_rfl) k x h
theorem cIn (k : Ky) (x : Nat) (h : cD k = some x) : 0 < x ∧ x < 65536 :=
  tab_in (M := 65536) (by kernel_rfl) k x h
theorem bnd : Bnd jD cD := by
  refine ⟨fun k => ?_, fun k => ?_⟩
  · cases h : jD k with
    | none => decide
    | some x => exact (jIn k x h).2
  · cases h : cD k with
    | none => decide
    | some x => exact (cIn k x h).2
theorem known : Known jD cD := by
  refine ⟨?_, ⟨by kernel_rfl, ?_⟩, by kernel_rfl, by kernel_rfl⟩
  · cases h : jD [98, 105, 103, 105, 110, 116] with
    | none => exact absurd h (by rw [show jD [98, 105, 103, 105, 110, 116] = some 32 by kernel_rfl]; intro e; cases e)
    | some x => exact ⟨x, rfl, by have := (jIn _ x h).1; omega⟩
  · cases h : cD [110, 101, 115, 116, 105, 110, 103] with
    | none => exact absurd h (by have : (cD [110, 101, 115, 116, 105, 110, 103]).isSome = true := by kernel_rfl
                                 rw [h] at this; cases this)
    | some x => exact ⟨x, rfl, by have := (cIn _ x h).1; omega⟩
def firstCells : Array Value := (Go.Pinned.utf8FirstZ.map (fun (n : Nat) => Value.int .u8 (n : Int))).toArray
def layIn (cs : Array Value) : Obj → Obj
  | .cells _ t frozen => .cells cs t frozen
  | o => o
noncomputable def laidWorld (os : Os) : World :=
  { World.doorLaid Tryf.prog 399 os with heap := (World.doorLaid Tryf.prog 399 os).heap.modify 2 (layIn firstCells) }
set_option maxRecDepth 1000000 in
theorem laid_met (os : Os) (args : Array Value) : laidMetH Tryf.prog Rows.fnValidateSupportedFlipAndKnownNamesRow.laid ((laidWorld os).forCall (fun _ _ => 0) ⟨#[], args, []⟩).memory :=
  laidMetH_of_parts3 (fuel := 10) (laidMet_of_run' 10 (by kernel_rfl) (by kernel_rfl)) (by kernel_rfl) (by kernel_rfl)
end Go.Proofs.YtfkchhmjfnkjbaaFmt
