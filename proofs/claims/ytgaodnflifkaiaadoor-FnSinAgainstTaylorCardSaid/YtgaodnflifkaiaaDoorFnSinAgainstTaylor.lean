/- The law FnSinAgainstTaylor returns true for every input, and leaves what it was given as it was: the given statement FnSinAgainstTaylorCardSaid (what it says: for every float64 x, Sin is NaN where x is not finite, is x itself for tiny x, and lies within 2e-15 of the series for every x within one). Conditions: the tables math._sin, math._cos and math.mPi4 hold what the program's text lays (the card ties them). -/
import Derived.Test.YtgaodnflifkaiaaDoorRows
import Derived.Test.YtgaodnflifkaiaaDoorCards
import Derived.Test.YtgaodnflifkaiaaDoorTie
import Derived.Test.YtgaodnflifkaiaaDoorSg
import Derived.Test.YtgaodnflifkaiaaDoorSr
import Derived.WalkKit
import Derived.ProofKit
import Derived.OpenShut
import Derived.ChangeOld
import Derived.Below
import Derived.Laws.Cover2
import Derived.SevenTiedAt
namespace Go.Proofs.YtgaodnflifkaiaaDoor.fnSinAgainstTaylor
open Go.ChangeShapes Go.WideShapes Go.ChangeAt Go.RowKit
set_option linter.unusedVariables false

theorem lt_of_wf {b : Nat} (h : (Lit.float .f64 b).wf = true) : b < 2 ^ 64 := by simpa [Lit.wf] using h

set_option maxRecDepth 100000 in
theorem lifted (os : Os) (started : os.Started) (H : Type) (enc : TypeId × Value → H) :
    ReturnsInHanded {} Tryd.checked os 4 .any (fun w args => (Rows.fnSinAgainstTaylorSpec.pre enc Tryd.prog Tryd.f4 [] false w args ∧ laidMet Tryd.prog laid3 w) ∧ sizedMet enc Tryd.prog Tryd.f4 (OpenSpec.ofChange Rows.fnSinAgainstTaylorSpec) false w args)
      (Rows.fnSinAgainstTaylorSpec.post enc Tryd.prog Tryd.f4 false true false false) := by
  refine returnsInHanded_of_change_and (C := Tryd.checked) (X := fun w _ => laidMet Tryd.prog laid3 w) (fun _ _ _ hh h => h.of_heap hh) Tryd.own started (by kernel_rfl) Tryd.func4
    (ChangeSpec.witness_at (enc := enc) (C := Tryd.checked) (os := os) (X := fun w _ => laidMet Tryd.prog laid3 w) false (laidWorld os) #[.float .f64 0] 8 rfl (by kernel_rfl) (by kernel_rfl) (by kernel_rfl) (by kernel_rfl) (by kernel_rfl) (laid_met os _)) ?_
  intro W base args ds gs before hval0 hW _ _ hL _
  have hval : ∀ (j : Nat) t v, Tryd.f4.params[j]? = some t → args[j]? = some v → Value.okWide Tryd.prog W .any base t v := hval0
  have hW' := hW
  obtain ⟨p, q, hA0, hV0, rfl, hfz, hnd⟩ := hW
  have hA : DataW.TrodAll enc Tryd.prog W 0 (fun _ => true) true Tryd.f4.params.toList args.toList ds p := hA0
  have hV : DataW.TrodVars enc Tryd.prog W (fun _ => true) [] gs q := hV0
  rw [Tryd.params4] at hA hval
  obtain ⟨v0, d0, rfl, rfl, h0⟩ := trodAll_one hA
  obtain ⟨a0, rfl, rfl, rfl, w0⟩ := open_float Tryd.underlying22 (hval 0 22 v0 rfl rfl) h0
  obtain ⟨rfl, rfl⟩ := trodVars_none hV
  have T := tabs_of_laid hL
  clear hA0 hval0 hL
  simp only [List.append_nil] at hW'
  refine (fnSinAgainstTaylor.walk a0 (lt_of_wf w0) tabOf W T).mono fun e W' ⟨he, bel⟩ => ?_
  subst he
  exact ⟨_, rfl, _, _, _, [], [], [], hW', trodAll_mk1 (shut_bool Tryd.underlying4 _), (trodAll_cons_mk (shut_float Tryd.underlying22 w0) trodAll_mk0), rfl, bel.frame _, fun h => by cases h⟩

theorem over : Rows.FnSinAgainstTaylorSaid :=
  OpenClaim.holds_of_wide 4 Tryd.f4 rfl rfl rfl rfl rfl rfl rfl ⟨rfl, rfl, rfl, rfl, rfl⟩ rfl rfl rfl rfl rfl (by kernel_rfl) Tryd.func4 (by kernel_rfl)
    (of_decide_eq_true (by kernel_rfl)) (by unfold Func.isWrapper; first | (rw [if_pos (by decide +kernel)]; kernel_rfl) | (rw [if_neg (by decide +kernel)]; exact ⟨rfl, rfl⟩))
    (fun os started H enc _ => lifted os started H enc)

theorem proved : Rows.FnSinAgainstTaylorCardSaid :=
  Claim7.holds_tied_plain_at .later [] [.data, .data, .data] true (true, "6d89f67d92c5b5f40e6f65f76af5edb303f9ccebbecd7d7d585c6dc61f7fd7f9") false
    over (fun _ h => by cases h) (by kernel_rfl) (fun _ h => by cases h) fnSinAgainstTaylor_row_tie rfl ⟨rfl, rfl⟩ (by kernel_rfl) rfl
    (fun f fn hf hfn => by
      obtain rfl : f = 4 := Option.some.inj ((show Tryd.prog.funcNamed "github.com/evanw/esbuild/n011_268.FnSinAgainstTaylor" = some 4 by kernel_rfl).symm.trans hf) |>.symm
      obtain rfl : fn = Tryd.f4 := (Option.some.inj (Tryd.func4.symm.trans hfn)).symm
      exact ⟨by kernel_rfl, fun j t ht => by
        rw [Tryd.params4] at ht
        have h3 : t = 22 := by
          rcases j with _ | j
          · simpa using ht.symm
          · simp at ht
        subst h3
        exact (show Tryd.prog.wantsStandIn 22 = false by kernel_rfl)⟩)
    (by kernel_rfl)
#print axioms proved
end Go.Proofs.YtgaodnflifkaiaaDoor.fnSinAgainstTaylor

