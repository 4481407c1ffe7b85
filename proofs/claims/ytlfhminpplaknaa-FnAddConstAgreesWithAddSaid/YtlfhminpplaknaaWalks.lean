/- The walks of the laws of n011_28: each returns true and writes nothing that was there. -/
import Derived.Test.YtlfhminpplaknaaF64M
import Derived.OpenShut
import Derived.Deep.RegionHeld3
import Derived.Deep.DrawnRows
import Derived.Lib.Hide
namespace Go.Proofs.Ytlfhminpplaknaa
open Go.RowKit Go.Fl
set_option linter.unusedVariables false
attribute [local go_sem ↓] Go.wp_at_zero Go.wp_at_succ

theorem sameF (x y : Nat) (hx : x < 2 ^ 64) (hy : y < 2 ^ 64) (w : World) : Calls Try.prog 8 #[.float .f64 x, .float .f64 y] w fun e w' => e = .returned (.bool (sameB x y)) ∧ Below w.heap.size w w' := by
  rcases same_cases hx hy with ⟨h1, h2, h3⟩ | ⟨h1, h2, h3⟩ | ⟨h1, h2, h3⟩ | ⟨h1, h2, h4, h5, h3⟩ | ⟨h1, h2, h4, h5, h3⟩ | ⟨h1, h2, h4, h5, rfl⟩ | ⟨h1, h2, h4, h5, rfl⟩ | ⟨h1, h2, h4, h5, h6, h7, h3⟩ | ⟨h1, h2, h4, h5, h6, h7, h3⟩ | ⟨h1, h2, h4, h5, h6, h7, h3⟩ | ⟨h1, h2, h4, h5, h6, h7, h3⟩
  all_goals
    first | rw [h3] | rw [sameB_self]
    clear hx
    try clear hy
    go_enter Try.func8, Try.ntmps8
    go_wp2
    all_goals go_ret
    all_goals refine ⟨ret_bool (by simp <;> omega), ?_⟩
    all_goals repeat' (first | exact Below.refl _ _ | refine Below.alloc ?_ ?_ _ | refine Below.setCell ?_ ?_ _ | refine below_drewN ?_ _ | (simp <;> omega))

theorem fnAddConstAgreesWithAdd.walk (a0 : Nat) (w0 : a0 < 2 ^ 64) (a1 : Nat) (w1 : a1 < 2 ^ 64) (w : World) : Calls Try.prog 3 #[.float .f64 a0, .float .f64 a1] w fun e w' => e = .returned (.bool true) ∧ Below w.heap.size w w' := by
  go_enter Try.func3, Try.ntmps3
  go_wp2_with (go_at_call 7; refine (newF64 _ _).mono ?_; rintro e w' ⟨rfl, rfl⟩)
  go_region_held3 (fun w' => w'.cell? ⟨w.heap.size + 1, 0, none⟩ = some (.float .f64 a0) ∧ w.heap.size + 1 < w'.heap.size ∧ Below w.heap.size w w')
    (first
      | (go_split_ands; exact hold_below (A := ⟨w.heap.size + 1, 0, none⟩) ⟨by assumption, by assumption, by assumption⟩ hb)
      | (go_split_ands; exact hold_alloc (A := ⟨w.heap.size + 1, 0, none⟩) ⟨by assumption, by assumption, by assumption⟩ _)
      | (refine ⟨by simp, by simp, ?_⟩; exact (((Below.refl _ _).alloc (Nat.le_refl _) _).alloc (by simp) _).drew))
    (first
      | (go_at_call 9; refine (addConstF _ _ _).mono ?_; rintro e w' ⟨r, hr, rfl, hb⟩)
      | (go_at_call 10; refine (value _ _).mono ?_; rintro e w' ⟨rfl, rfl⟩)
      | (go_at_call 7; refine (newF64 _ _).mono ?_; rintro e w' ⟨rfl, rfl⟩)
      | (go_at_call 11; refine (addF _ _ _).mono ?_; rintro e w' ⟨s, hs, rfl, hb⟩)
      | (go_at_call 8; refine (sameF _ _ hr.lt hs.lt _).mono ?_; rintro e w' ⟨rfl, hb⟩))
  go_wp2
  go_ret
  go_split_ands
  refine ⟨ret_bool (by simp [sameB_of (hr.same hs)]), by assumption⟩

theorem fnSubConstAgreesWithSub.walk (a0 : Nat) (w0 : a0 < 2 ^ 64) (a1 : Nat) (w1 : a1 < 2 ^ 64) (w : World) : Calls Try.prog 4 #[.float .f64 a0, .float .f64 a1] w fun e w' => e = .returned (.bool true) ∧ Below w.heap.size w w' := by
  go_enter Try.func4, Try.ntmps4
  go_wp2_with (go_at_call 7; refine (newF64 _ _).mono ?_; rintro e w' ⟨rfl, rfl⟩)
  go_region_held3 (fun w' => w'.cell? ⟨w.heap.size + 1, 0, none⟩ = some (.float .f64 a0) ∧ w.heap.size + 1 < w'.heap.size ∧ Below w.heap.size w w')
    (first
      | (go_split_ands; exact hold_below (A := ⟨w.heap.size + 1, 0, none⟩) ⟨by assumption, by assumption, by assumption⟩ hb)
      | (go_split_ands; exact hold_alloc (A := ⟨w.heap.size + 1, 0, none⟩) ⟨by assumption, by assumption, by assumption⟩ _)
      | (refine ⟨by simp, by simp, ?_⟩; exact (((Below.refl _ _).alloc (Nat.le_refl _) _).alloc (by simp) _).drew))
    (first
      | (go_at_call 12; refine (subConstF _ _ _).mono ?_; rintro e w' ⟨r, hr, rfl, hb⟩)
      | (go_at_call 10; refine (value _ _).mono ?_; rintro e w' ⟨rfl, rfl⟩)
      | (go_at_call 7; refine (newF64 _ _).mono ?_; rintro e w' ⟨rfl, rfl⟩)
      | (go_at_call 13; refine (subF _ _ _).mono ?_; rintro e w' ⟨s, hs, rfl, hb⟩)
      | (go_at_call 8; refine (sameF _ _ hr.lt hs.lt _).mono ?_; rintro e w' ⟨rfl, hb⟩))
  go_wp2
  go_ret
  go_split_ands
  refine ⟨ret_bool (by simp [sameB_of (hr.same hs)]), by assumption⟩

theorem fnSubIsAddOfNegation.walk (a0 : Nat) (w0 : a0 < 2 ^ 64) (a1 : Nat) (w1 : a1 < 2 ^ 64) (w : World) : Calls Try.prog 5 #[.float .f64 a0, .float .f64 a1] w fun e w' => e = .returned (.bool true) ∧ Below w.heap.size w w' := by
  go_enter Try.func5, Try.ntmps5
  go_wp2_with (go_at_call 7; refine (newF64 _ _).mono ?_; rintro e w' ⟨rfl, rfl⟩)
  go_region_held3 (fun w' => w'.cell? ⟨w.heap.size + 1, 0, none⟩ = some (.float .f64 a0) ∧ w'.cell? ⟨w.heap.size + 1 + 1 + 1, 0, none⟩ = some (.float .f64 a1) ∧ w.heap.size + 1 + 1 + 1 < w'.heap.size ∧ Below w.heap.size w w')
    (first
      | (go_split_ands; exact hold2_below (A := ⟨w.heap.size + 1, 0, none⟩) (B := ⟨w.heap.size + 1 + 1 + 1, 0, none⟩) (by simp) ⟨by assumption, by assumption, by assumption, by assumption⟩ hb)
      | (go_split_ands; exact hold2_alloc (A := ⟨w.heap.size + 1, 0, none⟩) (B := ⟨w.heap.size + 1 + 1 + 1, 0, none⟩) (by simp) ⟨by assumption, by assumption, by assumption, by assumption⟩ _)
      | (refine ⟨by simp [go_sem], by simp [go_sem], by simp, ?_⟩; exact (((((Below.refl _ _).alloc (Nat.le_refl _) _).alloc (by simp) _).alloc (by simp; omega) _).alloc (by simp; omega) _).drew))
    (first
      | (go_at_call 13; refine (subF _ _ _).mono ?_; rintro e w' ⟨r, hr, rfl, hb⟩)
      | (go_at_call 10; refine (value _ _).mono ?_; rintro e w' ⟨rfl, rfl⟩)
      | (go_at_call 14; refine (negF _ _).mono ?_; rintro e w' ⟨rfl, hb⟩)
      | (go_at_call 11; refine (addF _ _ _).mono ?_; rintro e w' ⟨s, hs, rfl, hb⟩)
      | (go_at_call 8; refine (sameF _ _ hr.lt hs.lt _).mono ?_; rintro e w' ⟨rfl, hb⟩))
  go_wp2
  go_ret
  go_split_ands
  refine ⟨ret_bool (by simp [sameB_of ((hr.sub_add w1).same hs)]), by assumption⟩

theorem fnAddConstMatchesIntegerSum.walk (a0 : Int) (w0 : (Lit.int .i64 a0).wf = true) (a1 : Int) (w1 : (Lit.int .i64 a1).wf = true) (w : World) : Calls Try.prog 6 #[.int .i64 a0, .int .i64 a1] w fun e w' => e = .returned (.bool true) ∧ Below w.heap.size w w' := by
  clear w0 w1
  by_cases c1 : 4503599627370496 < a0
  · go_enter Try.func6, Try.ntmps6
    go_wp2
    go_ret
    exact ⟨rfl, Below.refl _ _⟩
  by_cases c2 : a0 < -4503599627370496
  · go_enter Try.func6, Try.ntmps6
    go_wp2
    go_ret
    exact ⟨rfl, Below.refl _ _⟩
  by_cases c3 : 4503599627370496 < a1
  · go_enter Try.func6, Try.ntmps6
    go_wp2
    go_ret
    exact ⟨rfl, Below.refl _ _⟩
  by_cases c4 : a1 < -4503599627370496
  · go_enter Try.func6, Try.ntmps6
    go_wp2
    go_ret
    exact ⟨rfl, Below.refl _ _⟩
  have hs := add_ints (x := a0) (y := a1) (by omega) (by omega)
  have HS := Lib.hid hs
  clear hs
  have hl := (is_int (a0 + a1) (by omega)).lt
  go_enter Try.func6, Try.ntmps6
  go_wp2_with (first | (go_at_call 7; refine (newF64 _ _).mono ?_; rintro e w' ⟨rfl, rfl⟩) | (go_at_call 9; refine (addConstF _ _ _).mono ?_; rintro e w' ⟨r, hr, rfl, hb⟩) | (go_at_call 10; refine (value _ _).mono ?_; rintro e w' ⟨rfl, rfl⟩) | (go_at_call 8; refine (sameF _ _ hr.lt hl _).mono ?_; rintro e w' ⟨rfl, hb'⟩))
  go_ret
  refine ⟨ret_bool (by simp [hr.of_some HS.out, sameB_self]), ?_⟩
  have hz := hb.size
  simp at hz
  repeat' (first | exact Below.refl _ _ | refine Below.alloc ?_ ?_ _ | refine Below.setCell ?_ ?_ _ | refine below_drewN ?_ _ | refine Below.trans ?_ (hb'.mono ?_) | refine Below.trans ?_ (hb.mono ?_) | (simp <;> omega) | omega)

end Go.Proofs.Ytlfhminpplaknaa
