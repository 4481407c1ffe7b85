/- Small functions of the messages' law. -/
import Derived.Test.YtnccjpkeaapefaaRows
import Derived.WalkKit
import Derived.WalkLawsBesides
import Derived.WalkSpells
import Derived.Deep.LoopGhost
import Derived.Outline
import Derived.StillTailTactics
import Derived.Below
import Derived.Lib.Hide
import Derived.Deep.QuietTactic
import Derived.BigQuiet
import Derived.BigRegion
import Derived.ChangeAlike
import Derived.Lib.Strings
namespace Go.Proofs.Ytnccjpkeaapefaa
open Go.RowKit
set_option linter.unusedVariables false
set_option linter.unusedSimpArgs false

theorem noteText (k : Nat) (w : World) : ∃ t, Calls Try.prog 13 #[.int .i64 k] w fun e w' => e = .returned (.string t) ∧ w' = w := by
  by_cases h0 : k = 0
  · subst h0
    refine ⟨⟨#[110, 48]⟩, ?_⟩
    go_enter Try.func13, Try.ntmps13
    go_wp2
    go_ret
    exact ⟨rfl, rfl⟩
  · by_cases h1 : k = 1
    · subst h1
      refine ⟨⟨#[110, 49]⟩, ?_⟩
      go_enter Try.func13, Try.ntmps13
      go_wp2
      go_ret
      exact ⟨rfl, rfl⟩
    · refine ⟨⟨#[110, 50]⟩, ?_⟩
      have e0 : ((k : Int) == 0) = false := by simp; omega
      have e1 : ((k : Int) == 1) = false := by simp; omega
      go_enter Try.func13, Try.ntmps13
      go_wp2
      all_goals go_ret
      all_goals exact ⟨rfl, rfl⟩
theorem style (x y : Int) (w : World) : ∃ n : Int, (n = 0 ∨ n = 1) ∧ ∀ w, Calls Try.prog 15 #[.int .u8 x, .int .u8 y] w fun e w' => e = .returned (.int .u8 n) ∧ w' = w := by
  cases hb : (bits .and .u8 x y != 0)
  · refine ⟨0, Or.inl rfl, fun w => ?_⟩
    go_enter Try.func15, Try.ntmps15
    go_wp2
    all_goals go_ret
    all_goals exact ⟨rfl, rfl⟩
  · refine ⟨1, Or.inr rfl, fun w => ?_⟩
    go_enter Try.func15, Try.ntmps15
    go_wp2
    all_goals go_ret
    all_goals exact ⟨rfl, rfl⟩
end Go.Proofs.Ytnccjpkeaapefaa
