/- What the methods of helpers.F64 give, one contract each. -/
import Derived.Test.YtpjkjkbekcjlhaaRows
import Derived.Test.YtpjkjkbekcjlhaaF64S
namespace Go.Proofs.Ytpjkjkbekcjlhaa
open Go.RowKit Go.Fl

theorem newF64 (x : Nat) (w : World) : Calls Try.prog 7 #[.float .f64 x] w fun e w' => e = .returned (.agg #[.float .f64 x]) ∧ w' = w.alloc (.cells #[.float .f64 x] 24) := by
  go_enter Try.func7, Try.ntmps7
  go_wp2
  exact bodyPost_ret (v := .agg #[.float .f64 x]) (by simp [results, Try.results7, go_sem]) rfl ⟨rfl, rfl⟩
theorem value (x : Nat) (w : World) : Calls Try.prog 10 #[.agg #[.float .f64 x]] w fun e w' => e = .returned (.float .f64 x) ∧ w' = w.alloc (.cells #[.float .f64 x] 24) := by
  go_enter Try.func10, Try.ntmps10
  go_wp2
  go_ret
  exact ⟨rfl, rfl⟩
theorem negF (x : Nat) (w : World) : Calls Try.prog 12 #[.agg #[.float .f64 x]] w (GivesJust (Op.negFloat .f64 x) w) := by
  go_enter Try.func12, Try.ntmps12
  go_wp2_with (go_at_call 7; refine (newF64 _ _).mono ?_; rintro e w' ⟨rfl, rfl⟩)
  refine bodyPost_ret (v := .agg #[.float .f64 _]) (by simp [results, Try.results12, go_sem]) rfl ⟨rfl, ?_⟩
  repeat' (first | exact Below.refl _ _ | refine Below.alloc ?_ ?_ _ | refine Below.setCell ?_ ?_ _ | refine below_drewN ?_ _ | (simp <;> omega))
theorem mulF (x y : Nat) (w : World) : Calls Try.prog 14 #[.agg #[.float .f64 x], .agg #[.float .f64 y]] w (Gives .mul x y w) := by
  go_enter Try.func14, Try.ntmps14
  go_wp2_with (go_at_call 7; refine (newF64 _ _).mono ?_; rintro e w' ⟨rfl, rfl⟩)
  refine bodyPost_ret (v := .agg #[.float .f64 _]) (by simp [results, Try.results14, go_sem] <;> rfl) rfl ⟨_, fop_FR .mul _ _ _, rfl, ?_⟩
  repeat' (first | exact Below.refl _ _ | refine Below.alloc ?_ ?_ _ | refine Below.setCell ?_ ?_ _ | refine below_drewN ?_ _ | (simp <;> omega))
theorem mulConstF (x y : Nat) (w : World) : Calls Try.prog 8 #[.agg #[.float .f64 x], .float .f64 y] w (Gives .mul x y w) := by
  go_enter Try.func8, Try.ntmps8
  go_wp2_with (go_at_call 7; refine (newF64 _ _).mono ?_; rintro e w' ⟨rfl, rfl⟩)
  refine bodyPost_ret (v := .agg #[.float .f64 _]) (by simp [results, Try.results8, go_sem] <;> rfl) rfl ⟨_, fop_FR .mul _ _ _, rfl, ?_⟩
  repeat' (first | exact Below.refl _ _ | refine Below.alloc ?_ ?_ _ | refine Below.setCell ?_ ?_ _ | refine below_drewN ?_ _ | (simp <;> omega))
theorem divF (x y : Nat) (w : World) : Calls Try.prog 13 #[.agg #[.float .f64 x], .agg #[.float .f64 y]] w (Gives .quo x y w) := by
  go_enter Try.func13, Try.ntmps13
  go_wp2_with (go_at_call 7; refine (newF64 _ _).mono ?_; rintro e w' ⟨rfl, rfl⟩)
  refine bodyPost_ret (v := .agg #[.float .f64 _]) (by simp [results, Try.results13, go_sem] <;> rfl) rfl ⟨_, fop_FR .quo _ _ _, rfl, ?_⟩
  repeat' (first | exact Below.refl _ _ | refine Below.alloc ?_ ?_ _ | refine Below.setCell ?_ ?_ _ | refine below_drewN ?_ _ | (simp <;> omega))
theorem divConstF (x y : Nat) (w : World) : Calls Try.prog 9 #[.agg #[.float .f64 x], .float .f64 y] w (Gives .quo x y w) := by
  go_enter Try.func9, Try.ntmps9
  go_wp2_with (go_at_call 7; refine (newF64 _ _).mono ?_; rintro e w' ⟨rfl, rfl⟩)
  refine bodyPost_ret (v := .agg #[.float .f64 _]) (by simp [results, Try.results9, go_sem] <;> rfl) rfl ⟨_, fop_FR .quo _ _ _, rfl, ?_⟩
  repeat' (first | exact Below.refl _ _ | refine Below.alloc ?_ ?_ _ | refine Below.setCell ?_ ?_ _ | refine below_drewN ?_ _ | (simp <;> omega))

end Go.Proofs.Ytpjkjkbekcjlhaa
