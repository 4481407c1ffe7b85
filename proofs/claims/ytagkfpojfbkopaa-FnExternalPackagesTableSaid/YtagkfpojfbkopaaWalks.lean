/- The walks of the laws of n011_174: each returns true and writes nothing that was there. -/
import Derived.Test.YtagkfpojfbkopaaRows
import Derived.WalkKit
import Derived.WalkLawsBesides
import Derived.OpenShut
import Derived.Outline
namespace Go.Proofs.Ytagkfpojfbkopaa
open Go.RowKit
set_option linter.unusedVariables false
set_option linter.unusedSimpArgs false

theorem beq_same {a b c d : Int} (h : a = b ↔ c = d) : (a == b) = (c == d) := by
  rw [Bool.eq_iff_iff, beq_iff_eq, beq_iff_eq]; exact h
theorem ret_bool {a b : Bool} (h : a = true ↔ b = true) : Ending.returned (.bool a) = .returned (.bool b) := by rw [Bool.eq_iff_iff.2 h]

theorem fnASCIIOnlyDefaultIsASCII.walk (w : World) : Calls Try.prog 3 #[] w fun e w' => e = .returned (.bool true) ∧ Below w.heap.size w w' := by
  go_enter Try.func3, Try.ntmps3
  go_wp2
  go_ret
  exact ⟨rfl, Below.refl _ _⟩

theorem fnExternalPackagesTable.walk (a0 : Int) (w0 : (Lit.int .u8 a0).wf = true) (w : World) : Calls Try.prog 5 #[.int .u8 a0] w fun e w' => e = .returned (.bool true) ∧ Below w.heap.size w w' := by
  obtain ⟨h0, h1⟩ := bounds_u8 w0
  clear w0
  by_cases h : 2 < a0
  · go_enter Try.func5, Try.ntmps5
    go_wp2
    go_ret
    exact ⟨rfl, Below.refl _ _⟩
  · rcases (show a0 = 0 ∨ a0 = 1 ∨ a0 = 2 by omega) with rfl | rfl | rfl
    all_goals
      go_enter Try.func5, Try.ntmps5
      go_wp2
      go_ret
      exact ⟨rfl, Below.refl _ _⟩

theorem fnTreeShakingMonotoneInBundle.walk (a0 : Int) (w0 : (Lit.int .u8 a0).wf = true) (a1 : Int) (w1 : (Lit.int .u8 a1).wf = true) (w : World) : Calls Try.prog 6 #[.int .u8 a0, .int .u8 a1] w fun e w' => e = .returned (.bool true) ∧ Below w.heap.size w w' := by
  obtain ⟨h0, h1⟩ := bounds_u8 w0
  obtain ⟨h2, h3⟩ := bounds_u8 w1
  clear w0 w1
  by_cases h : 2 < a0
  · go_enter Try.func6, Try.ntmps6
    go_wp2
    go_ret
    exact ⟨rfl, Below.refl _ _⟩
  by_cases k : 3 < a1
  · have hd : decide (2 < a0) = false := by simpa using h
    go_enter Try.func6, Try.ntmps6
    go_wp2
    go_ret
    exact ⟨rfl, Below.refl _ _⟩
  rcases (show a0 = 0 ∨ a0 = 1 ∨ a0 = 2 by omega) with rfl | rfl | rfl <;> rcases (show a1 = 0 ∨ a1 = 1 ∨ a1 = 2 ∨ a1 = 3 by omega) with rfl | rfl | rfl | rfl
  all_goals
    go_enter Try.func6, Try.ntmps6
    go_wp2
    go_ret
    exact ⟨rfl, Below.refl _ _⟩

def tab : List Int := [0, 1, 2, 3, 4, 5, 6, 7, 8, 9, 10, 11, 13, 14, 15, 16, 18]
def lo (a : Int) : Int := tab.getD a.toNat 0
theorem loader_any (a : Int) (h0 : 0 ≤ a) (h1 : a ≤ 16) (w : World) : Calls Try.prog 12 #[.int .u16 a] w fun e w' => e = .returned (.int .u8 (lo a)) ∧ w = w' := by
  rcases (show a = 0 ∨ a = 1 ∨ a = 2 ∨ a = 3 ∨ a = 4 ∨ a = 5 ∨ a = 6 ∨ a = 7 ∨ a = 8 ∨ a = 9 ∨ a = 10 ∨ a = 11 ∨ a = 12 ∨ a = 13 ∨ a = 14 ∨ a = 15 ∨ a = 16 by omega) with rfl | rfl | rfl | rfl | rfl | rfl | rfl | rfl | rfl | rfl | rfl | rfl | rfl | rfl | rfl | rfl | rfl
  all_goals
    go_enter Try.func12, Try.ntmps12
    go_wp2
    go_ret
    exact ⟨rfl, rfl⟩
theorem zzLoader_any (a : Int) (h0 : 0 ≤ a) (h1 : a ≤ 16) (w : World) : Calls Try.prog 8 #[.int .u16 a] w fun e w' => e = .returned (.int .u8 (lo a)) ∧ w = w' := by
  go_enter Try.func8, Try.ntmps8
  go_wp2_with (go_at_call 12; refine (loader_any _ h0 h1 _).mono ?_; rintro e w' ⟨rfl, rfl⟩)
  go_ret
  exact ⟨rfl, rfl⟩
theorem lo_inj (a b : Int) (h0 : 0 ≤ a) (h1 : a ≤ 16) (h2 : 0 ≤ b) (h3 : b ≤ 16) : lo a = lo b ↔ a = b := by
  have e : ∀ i j : Fin 17, lo (i.val : Int) = lo (j.val : Int) ↔ (i.val : Int) = (j.val : Int) := by decide +kernel
  obtain ⟨n, hn, rfl⟩ : ∃ n : Nat, n < 17 ∧ a = (n : Int) := ⟨a.toNat, by omega, by omega⟩
  obtain ⟨m, hm, rfl⟩ : ∃ n : Nat, n < 17 ∧ b = (n : Int) := ⟨b.toNat, by omega, by omega⟩
  exact e ⟨n, hn⟩ ⟨m, hm⟩

theorem fnLoaderInjective.walk (a0 : Int) (w0 : (Lit.int .u16 a0).wf = true) (a1 : Int) (w1 : (Lit.int .u16 a1).wf = true) (w : World) : Calls Try.prog 4 #[.int .u16 a0, .int .u16 a1] w fun e w' => e = .returned (.bool true) ∧ Below w.heap.size w w' := by
  obtain ⟨h0, h1⟩ := bounds_u16 w0
  obtain ⟨h2, h3⟩ := bounds_u16 w1
  clear w0 w1
  by_cases h : 16 < a0
  · go_enter Try.func4, Try.ntmps4
    go_wp2
    go_ret
    exact ⟨rfl, Below.refl _ _⟩
  by_cases k : 16 < a1
  · have hd : decide (16 < a0) = false := by simpa using h
    go_enter Try.func4, Try.ntmps4
    go_wp2
    go_ret
    exact ⟨rfl, Below.refl _ _⟩
  have hi := lo_inj a0 a1 h0 (by omega) h2 (by omega)
  go_enter Try.func4, Try.ntmps4
  go_wp2_with (go_at_call 8; refine (zzLoader_any _ (by omega) (by omega) _).mono ?_; rintro e w' ⟨rfl, rfl⟩)
  all_goals go_ret
  all_goals exact ⟨ret_bool (by simp; exact beq_same hi), Below.refl _ _⟩

end Go.Proofs.Ytagkfpojfbkopaa
