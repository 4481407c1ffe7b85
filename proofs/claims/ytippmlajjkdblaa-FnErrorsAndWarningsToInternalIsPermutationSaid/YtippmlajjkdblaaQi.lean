/- locEq: equality of what two locations say (printed by genQi.py). -/
import Derived.Test.YtippmlajjkdblaaPn
namespace Go.Proofs.Ytippmlajjkdblaa
open Go.RowKit
set_option linter.unusedVariables false
set_option linter.unusedSimpArgs false
def eqL (L L' : LocA) : Bool := L.A.toList == L'.A.toList && L.R.toList == L'.R.toList && L.N.toList == L'.N.toList && L.i == L'.i && L.j == L'.j && L.k == L'.k && L.T.toList == L'.T.toList && L.S.toList == L'.S.toList
def eqO : Option LocA → Option LocA → Bool
  | none, none => true
  | some L, some L' => eqL L L'
  | _, _ => false
set_option maxRecDepth 100000 in
set_option maxHeartbeats 8000000 in
theorem locEq (l l' : Option Nat) (Z Z' : Nat → Prop) (o o' : Option LocA) (w : World) (h : IsRaw w Z l o) (h' : IsRaw w Z' l' o') :
    Calls Try.prog 15 #[locv l, locv l'] w fun e w' => e = .returned (.bool (eqO o o')) ∧ ∃ n, w' = w.drewN n := by
  cases o with
  | none =>
    obtain rfl : l = none := h
    cases o' with
    | none =>
      obtain rfl : l' = none := h'
      simp only [locv]
      go_enter Try.func15, Try.ntmps15
      go_wp2_with fail
      all_goals go_ret
      all_goals exact ⟨rfl, 0, rfl⟩
    | some p =>
      obtain ⟨g', rfl, _, b0, b1, b2, b3, b4, b5, b6, b7, blt⟩ := h'
      simp only [locv]
      go_enter Try.func15, Try.ntmps15
      go_wp2_with fail
      all_goals go_ret
      all_goals exact ⟨rfl, 0, rfl⟩
  | some p =>
    obtain ⟨g, rfl, _, a0, a1, a2, a3, a4, a5, a6, a7, alt⟩ := h
    cases o' with
    | none =>
      obtain rfl : l' = none := h'
      simp only [locv]
      go_enter Try.func15, Try.ntmps15
      go_wp2_with fail
      all_goals go_ret
      all_goals exact ⟨rfl, 0, rfl⟩
    | some p' =>
      obtain ⟨g', rfl, _, b0, b1, b2, b3, b4, b5, b6, b7, blt⟩ := h'
      simp only [locv]
      go_enter Try.func15, Try.ntmps15
      go_wp2_with fail
      simp only [List.append_eq, List.cons_append, List.nil_append]
      refine wp_region_quiet_lit (by kernel_rfl) (by kernel_rfl) ?_
      cases h0 : (p.A.toList == p'.A.toList)
      · repeat (go_big_quiet_step (fail))
        refine wpQuiet_nil ?_
        intro _ hw'
        obtain ⟨nq, hw''⟩ := hw'
        subst hw''
        go_wp2_with fail
        all_goals go_ret
        all_goals exact ⟨by simp [eqO, eqL, *], _, rfl⟩
      · cases h1 : (p.R.toList == p'.R.toList)
        · repeat (go_big_quiet_step (fail))
          refine wpQuiet_nil ?_
          intro _ hw'
          obtain ⟨nq, hw''⟩ := hw'
          subst hw''
          go_wp2_with fail
          all_goals go_ret
          all_goals exact ⟨by simp [eqO, eqL, *], _, rfl⟩
        · cases h2 : (p.N.toList == p'.N.toList)
          · repeat (go_big_quiet_step (fail))
            refine wpQuiet_nil ?_
            intro _ hw'
            obtain ⟨nq, hw''⟩ := hw'
            subst hw''
            go_wp2_with fail
            all_goals go_ret
            all_goals exact ⟨by simp [eqO, eqL, *], _, rfl⟩
          · cases h3 : (p.i == p'.i)
            · repeat (go_big_quiet_step (fail))
              refine wpQuiet_nil ?_
              intro _ hw'
              obtain ⟨nq, hw''⟩ := hw'
              subst hw''
              go_wp2_with fail
              all_goals go_ret
              all_goals exact ⟨by simp [eqO, eqL, *], _, rfl⟩
            · cases h4 : (p.j == p'.j)
              · repeat (go_big_quiet_step (fail))
                refine wpQuiet_nil ?_
                intro _ hw'
                obtain ⟨nq, hw''⟩ := hw'
                subst hw''
                go_wp2_with fail
                all_goals go_ret
                all_goals exact ⟨by simp [eqO, eqL, *], _, rfl⟩
              · cases h5 : (p.k == p'.k)
                · repeat (go_big_quiet_step (fail))
                  refine wpQuiet_nil ?_
                  intro _ hw'
                  obtain ⟨nq, hw''⟩ := hw'
                  subst hw''
                  go_wp2_with fail
                  all_goals go_ret
                  all_goals exact ⟨by simp [eqO, eqL, *], _, rfl⟩
                · cases h6 : (p.T.toList == p'.T.toList)
                  · repeat (go_big_quiet_step (fail))
                    refine wpQuiet_nil ?_
                    intro _ hw'
                    obtain ⟨nq, hw''⟩ := hw'
                    subst hw''
                    go_wp2_with fail
                    all_goals go_ret
                    all_goals exact ⟨by simp [eqO, eqL, *], _, rfl⟩
                  · cases h7 : (p.S.toList == p'.S.toList)
                    · repeat (go_big_quiet_step (fail))
                      refine wpQuiet_nil ?_
                      intro _ hw'
                      obtain ⟨nq, hw''⟩ := hw'
                      subst hw''
                      go_wp2_with fail
                      all_goals go_ret
                      all_goals exact ⟨by simp [eqO, eqL, *], _, rfl⟩
                    · repeat (go_big_quiet_step (fail))
                      refine wpQuiet_nil ?_
                      intro _ hw'
                      obtain ⟨nq, hw''⟩ := hw'
                      subst hw''
                      go_wp2_with fail
                      all_goals go_ret
                      all_goals exact ⟨by simp [eqO, eqL, *], _, rfl⟩
end Go.Proofs.Ytippmlajjkdblaa
