/- What the methods of helpers.F64 give, one contract each. -/
import Derived.Test.YtehmgpceajbmkaaRows
import Derived.Test.YtehmgpceajbmkaaF64S
namespace Go.Proofs.Ytehmgpceajbmkaa
open Go.RowKit Go.Fl

theorem newF64 (x : Nat) (w : World) : Calls Try.prog 8 #[.float .f64 x] w fun e w' => e = .returned (.agg #[.float .f64 x]) ∧ w' = w.alloc (.cells #[.float .f64 x] 24) := by
  go_enter Try.func8, Try.ntmps8
  go_wp2
  exact bodyPost_ret (v := .agg #[.float .f64 x]) (by simp [results, Try.results8, go_sem]) rfl ⟨rfl, rfl⟩
theorem value (x : Nat) (w : World) : Calls Try.prog 10 #[.agg #[.float .f64 x]] w fun e w' => e = .returned (.float .f64 x) ∧ w' = w.alloc (.cells #[.float .f64 x] 24) := by
  go_enter Try.func10, Try.ntmps10
  go_wp2
  go_ret
  exact ⟨rfl, rfl⟩
theorem mulF (x y : Nat) (w : World) : Calls Try.prog 18 #[.agg #[.float .f64 x], .agg #[.float .f64 y]] w (Gives .mul x y w) := by
  go_enter Try.func18, Try.ntmps18
  go_wp2_with (go_at_call 8; refine (newF64 _ _).mono ?_; rintro e w' ⟨rfl, rfl⟩)
  refine bodyPost_ret (v := .agg #[.float .f64 _]) (by simp [results, Try.results18, go_sem] <;> rfl) rfl ⟨_, fop_FR .mul _ _ _, rfl, ?_⟩
  repeat' (first | exact Below.refl _ _ | refine Below.alloc ?_ ?_ _ | refine Below.setCell ?_ ?_ _ | refine below_drewN ?_ _ | (simp <;> omega))

end Go.Proofs.Ytehmgpceajbmkaa
