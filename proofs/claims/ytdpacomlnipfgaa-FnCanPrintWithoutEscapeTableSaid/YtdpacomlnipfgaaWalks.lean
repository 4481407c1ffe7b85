/- The walk of the table of canPrintWithoutEscape (n011_74). -/
import Derived.Test.YtdpacomlnipfgaaRows
import Derived.WalkKit
import Derived.WalkLawsBesides
import Derived.OpenShut
import Derived.Outline
namespace Go.Proofs.Ytdpacomlnipfgaa
open Go.RowKit
set_option linter.unusedVariables false
set_option linter.unusedSimpArgs false

theorem ret_bool {a b : Bool} (h : a = true ↔ b = true) : Ending.returned (.bool a) = .returned (.bool b) := by rw [Bool.eq_iff_iff.2 h]

/-- The table. -/
def canB (c : Int) (a : Bool) : Bool := decide (32 ≤ c ∧ c ≤ 33 ∨ 35 ≤ c ∧ c ≤ 91 ∨ 93 ≤ c ∧ c ≤ 126) || (!a && decide (127 ≤ c ∧ c ≤ 55295 ∨ 57344 ≤ c ∧ c ≤ 65278 ∨ 65280 ≤ c))

theorem can_any (c : Int) (a : Bool) (w : World) : Calls Try.prog 13 #[.int .i32 c, .bool a] w fun e w' => e = .returned (.bool (canB c a)) ∧ w = w' := by
  rcases (show c < 32 ∨ (32 ≤ c ∧ c ≤ 33) ∨ c = 34 ∨ (35 ≤ c ∧ c ≤ 91) ∨ c = 92 ∨ (93 ≤ c ∧ c ≤ 126) ∨ (127 ≤ c ∧ c ≤ 55295) ∨ (55296 ≤ c ∧ c ≤ 57343) ∨ (57344 ≤ c ∧ c ≤ 65278) ∨ c = 65279 ∨ 65280 ≤ c by omega) with h | ⟨h, k⟩ | rfl | ⟨h, k⟩ | rfl | ⟨h, k⟩ | ⟨h, k⟩ | ⟨h, k⟩ | ⟨h, k⟩ | rfl | h
  all_goals
    cases a
    all_goals
      go_enter Try.func13, Try.ntmps13
      go_wp2
      all_goals go_ret
      all_goals exact ⟨ret_bool (by unfold canB; simp <;> omega), rfl⟩

theorem zzCan_any (c : Int) (a : Bool) (w : World) : Calls Try.prog 6 #[.int .i32 c, .bool a] w fun e w' => e = .returned (.bool (canB c a)) ∧ w = w' := by
  go_enter Try.func6, Try.ntmps6
  go_wp2_with (go_at_call 13; refine (can_any _ _ _).mono ?_; rintro e w' ⟨rfl, rfl⟩)
  go_ret
  exact ⟨rfl, rfl⟩

set_option maxHeartbeats 4000000 in
theorem fnCanPrintWithoutEscapeTable.walk (a0 : Int) (w0 : (Lit.int .i32 a0).wf = true) (a1 : Bool) (w : World) : Calls Try.prog 3 #[.int .i32 a0, .bool a1] w fun e w' => e = .returned (.bool true) ∧ Below w.heap.size w w' := by
  clear w0
  rcases (show a0 < 32 ∨ (32 ≤ a0 ∧ a0 ≤ 33) ∨ a0 = 34 ∨ (35 ≤ a0 ∧ a0 ≤ 91) ∨ a0 = 92 ∨ (93 ≤ a0 ∧ a0 ≤ 126) ∨ (127 ≤ a0 ∧ a0 ≤ 55295) ∨ (55296 ≤ a0 ∧ a0 ≤ 57343) ∨ (57344 ≤ a0 ∧ a0 ≤ 65278) ∨ a0 = 65279 ∨ 65280 ≤ a0 by omega) with h | ⟨h, k⟩ | rfl | ⟨h, k⟩ | rfl | ⟨h, k⟩ | ⟨h, k⟩ | ⟨h, k⟩ | ⟨h, k⟩ | rfl | h
  all_goals
    cases a1
    all_goals
      go_enter Try.func3, Try.ntmps3
      go_wp2_with (go_at_call 6; refine (zzCan_any _ _ _).mono ?_; rintro e w' ⟨rfl, rfl⟩)
      all_goals go_ret
      all_goals exact ⟨ret_bool (by unfold canB; simp <;> omega), Below.refl _ _⟩

end Go.Proofs.Ytdpacomlnipfgaa
