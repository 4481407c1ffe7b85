/- The law FnKeepNamesVerdictHangsOnlyOnKeepNamesAndTheBit returns true for every input, and leaves what it was given as it was: the given statement FnKeepNamesVerdictHangsOnlyOnKeepNamesAndTheBitToldSaid. Conditions: none of ours; the text of fmt is told by the form, not proved out of fmt. -/
import Derived.Test.YtnccjpkeaapefaaFmtRows
import Derived.Test.YtnccjpkeaapefaaFmtKh
import Derived.WalkKit
import Derived.ProofKit
import Derived.OpenShut
import Derived.ShutString
import Derived.ChangeOld
import Derived.Below
import Derived.Laws.Cover2
import Derived.Test.YtnccjpkeaapefaaFmtCards
import Derived.Stop.JoinedAt
import Derived.Stop.Texts
import Derived.Stop.JoinedTold
import Derived.SizedLaws
import Derived.SevenToldRow
import Derived.Test.YtnccjpkeaapefaaFmtTie
import Derived.SevenTiedAt
import Derived.Deep.DeepWitnessRef
import Derived.Stop.Joined
namespace Go.Proofs.YtnccjpkeaapefaaFmt.fnKeepNamesVerdictHangsOnlyOnKeepNamesAndTheBit
open Go.ChangeShapes Go.WideShapes Go.ChangeAt Go.RowKit
open Go.ChangeMaps (open_string shut_string)
open Go.Kit Go.Extern.Stop Go.Stop Go.Extern
set_option linter.unusedVariables false

theorem own : ownKnob Tryf.prog.godebug = none := by kernel_rfl
theorem laidOut : laidOutB Tryf.prog = true := by kernel_rfl

set_option maxRecDepth 100000 in
theorem witness_row (os : Os) {H : Type} (enc : TypeId × Value → H) :
    (OpenSpec.ofChange Rows.fnKeepNamesVerdictHangsOnlyOnKeepNamesAndTheBitSpec).preRow enc Tryf.prog Tryf.f3 [] false Rows.fnKeepNamesVerdictHangsOnlyOnKeepNamesAndTheBitRow.laid ((laidWorld os).forCall (fun _ _ => 0) ⟨#[], #[.bool false, .int .u64 0, .int .u64 0, .string ⟨#[]⟩, .string ⟨#[]⟩, .int .u64 0, .int .u64 0], []⟩).memory #[.bool false, .int .u64 0, .int .u64 0, .string ⟨#[]⟩, .string ⟨#[]⟩, .int .u64 0, .int .u64 0] := by
  have hw : (DataW.whole enc Tryf.prog ((laidWorld os).forCall (fun _ _ => 0) ⟨#[], #[.bool false, .int .u64 0, .int .u64 0, .string ⟨#[]⟩, .string ⟨#[]⟩, .int .u64 0, .int .u64 0], []⟩).memory Tryf.f3.params.toList (OpenSpec.ofChange Rows.fnKeepNamesVerdictHangsOnlyOnKeepNamesAndTheBitSpec).vars false #[Value.bool false, .int .u64 0, .int .u64 0, .string ⟨#[]⟩, .string ⟨#[]⟩, .int .u64 0, .int .u64 0].toList 8).map (fun x => (x.1, x.2.1)) =
      some ([.lit (.bool false), .lit (.int .u64 0), .lit (.int .u64 0), .lit (.string []), .lit (.string []), .lit (.int .u64 0), .lit (.int .u64 0)], []) := by kernel_rfl
  obtain ⟨⟨x1, x2, x3⟩, hx, hx1⟩ := Option.map_eq_some_iff.1 hw
  simp only [Prod.mk.injEq] at hx1
  obtain ⟨rfl, rfl⟩ := hx1
  exact OpenSpec.preRow_of_cond 8 hx rfl (fun k hk => by cases hk) (by kernel_rfl) (laid_met os _)

set_option maxRecDepth 100000 in
theorem lifted (os : Os) (started : os.Started) (H : Type) (enc : TypeId × Value → H) :
    ReturnsInTold none {} Tryf.checked os 3 .any Input.okWide ((OpenSpec.ofChange Rows.fnKeepNamesVerdictHangsOnlyOnKeepNamesAndTheBitSpec).preRow enc Tryf.prog Tryf.f3 [] false Rows.fnKeepNamesVerdictHangsOnlyOnKeepNamesAndTheBitRow.laid) (fun F => ((OpenSpec.ofChange Rows.fnKeepNamesVerdictHangsOnlyOnKeepNamesAndTheBitSpec).at F).post enc Tryf.prog Tryf.f3 false true false false) (aloneAtReturn Tryf.prog) nothingAlways := by
  refine returnsInTold_of_row (C := Tryf.checked) (s := OpenSpec.ofChange Rows.fnKeepNamesVerdictHangsOnlyOnKeepNamesAndTheBitSpec) (by kernel_rfl) own started (by kernel_rfl) Tryf.func3
    (OpenSpec.witness_stopped_atRef (enc := enc) (C := Tryf.checked) false (laidWorld os) #[.bool false, .int .u64 0, .int .u64 0, .string ⟨#[]⟩, .string ⟨#[]⟩, .int .u64 0, .int .u64 0] rfl (by kernel_rfl) (by kernel_rfl) (by kernel_rfl) (witness_row os enc)) ?_
  intro F W base args ds gs before _ hF hval0 hW _ _ hsz _ _
  have hval : ∀ (j : Nat) t v, Tryf.f3.params[j]? = some t → args[j]? = some v → Value.okWide Tryf.prog W .any base t v := hval0
  have hW' := hW
  obtain ⟨p, q, hA0, hV, rfl, hfz, hnd⟩ := hW
  have hA : DataW.TrodAll enc Tryf.prog W 0 (fun _ => true) true Tryf.f3.params.toList args.toList ds p := hA0
  rw [Tryf.params3] at hA hval
  obtain ⟨v0, vs0, d0, ds0, p0, q0, hargs, rfl, rfl, h0, r0⟩ := trodAll_cons hA
  obtain ⟨v1, vs1, d1, ds1, p1, q1, rfl, rfl, rfl, h1, r1⟩ := trodAll_cons r0
  obtain ⟨v2, vs2, d2, ds2, p2, q2, rfl, rfl, rfl, h2, r2⟩ := trodAll_cons r1
  obtain ⟨v3, vs3, d3, ds3, p3, q3, rfl, rfl, rfl, h3, r3⟩ := trodAll_cons r2
  obtain ⟨v4, vs4, d4, ds4, p4, q4, rfl, rfl, rfl, h4, r4⟩ := trodAll_cons r3
  obtain ⟨v5, vs5, d5, ds5, p5, q5, rfl, rfl, rfl, h5, r5⟩ := trodAll_cons r4
  obtain ⟨v6, vs6, d6, ds6, p6, q6, rfl, rfl, rfl, h6, r6⟩ := trodAll_cons r5
  obtain ⟨rfl, rfl, rfl⟩ := trodAll_nil r6
  obtain rfl : args = #[v0, v1, v2, v3, v4, v5, v6] := by cases args; simp_all
  obtain ⟨rfl, rfl⟩ := trodVars_none hV
  obtain ⟨a0, rfl, rfl, rfl⟩ := open_bool Tryf.underlying4 (hval 0 4 v0 rfl rfl) h0
  obtain ⟨a1, rfl, rfl, rfl, w1⟩ := open_int Tryf.underlying22 (hval 1 22 v1 rfl rfl) h1
  obtain ⟨a2, rfl, rfl, rfl, w2⟩ := open_int Tryf.underlying22 (hval 2 22 v2 rfl rfl) h2
  obtain ⟨a3, rfl, rfl, rfl, w3⟩ := open_string Tryf.underlying9 (hval 3 9 v3 rfl rfl) h3
  obtain ⟨a4, rfl, rfl, rfl, w4⟩ := open_string Tryf.underlying9 (hval 4 9 v4 rfl rfl) h4
  obtain ⟨a5, rfl, rfl, rfl, w5⟩ := open_int Tryf.underlying22 (hval 5 22 v5 rfl rfl) h5
  obtain ⟨a6, rfl, rfl, rfl, w6⟩ := open_int Tryf.underlying22 (hval 6 22 v6 rfl rfl) h6
  clear hA0 hval0
  refine (walk F a0 a1 a2 a3 a4 a5 a6 W w1 w2 w3 w4 w5 w6 hF).mono fun e W' ⟨he, bel⟩ => ?_
  subst he
  exact ⟨_, rfl, _, _, _, [], _, [], hW', trodAll_mk1 (shut_bool Tryf.underlying4 _), (trodAll_cons_mk (shut_bool Tryf.underlying4 _) (trodAll_cons_mk (shut_int Tryf.underlying22 w1) (trodAll_cons_mk (shut_int Tryf.underlying22 w2) (trodAll_cons_mk (shut_string Tryf.underlying9 w3) (trodAll_cons_mk (shut_string Tryf.underlying9 w4) (trodAll_cons_mk (shut_int Tryf.underlying22 w5) (trodAll_cons_mk (shut_int Tryf.underlying22 w6) trodAll_mk0))))))), rfl, bel.frame _, fun h => by cases h⟩

theorem stops : Tryf.pinned.checked.prog.stops = ["fmt.Sprintf"] := by kernel_rfl
theorem stopKnobs : Tryf.pinned.checked.prog.stopKnobs = [] := by kernel_rfl
theorem quiet (os : Os) : Stop.quiet Tryf.pinned.checked.prog os := by
  intro k hk
  rw [stopKnobs] at hk
  cases hk
theorem laidOut7 : laidOutB Tryf.pinned.checked.prog = true := by kernel_rfl

theorem proved : Rows.FnKeepNamesVerdictHangsOnlyOnKeepNamesAndTheBitToldSaid :=
  Claim7.holds_of_told_tied_any_at .later 3 Tryf.f3 "fmt.Sprintf" [] [] _ _ _ _ _ (by kernel_rfl) rfl rfl rfl laidOut7 (by kernel_rfl) rfl ⟨rfl, rfl, rfl, rfl, rfl, rfl, rfl⟩ rfl rfl (by kernel_rfl) (by kernel_rfl) Tryf.func3 (by kernel_rfl)
    (of_decide_eq_true (by kernel_rfl)) (of_decide_eq_true (by kernel_rfl)) stops.symm rfl stopKnobs.symm (by kernel_rfl)
    (by kernel_rfl) (by kernel_rfl) (by kernel_rfl) (by kernel_rfl) (by kernel_rfl) (by kernel_rfl) (by kernel_rfl) (by kernel_rfl) (by kernel_rfl) rfl (by kernel_rfl) rfl rfl
    rfl rfl
    rfl (by kernel_rfl) (by kernel_rfl) (by kernel_rfl) (by decide) (by kernel_rfl) fnKeepNamesVerdictHangsOnlyOnKeepNamesAndTheBit_row_tie
    (OpenClaim.moreEntering_of (by kernel_rfl) (by kernel_rfl) (by kernel_rfl) (by kernel_rfl) (by kernel_rfl) (by kernel_rfl) (by kernel_rfl) (by kernel_rfl) (by kernel_rfl) (by kernel_rfl))
    ⟨_, WideRow.started_initial, quiet _⟩
    (fun os started _ H enc _ => lifted os started H enc)
#print axioms proved
end Go.Proofs.YtnccjpkeaapefaaFmt.fnKeepNamesVerdictHangsOnlyOnKeepNamesAndTheBit
