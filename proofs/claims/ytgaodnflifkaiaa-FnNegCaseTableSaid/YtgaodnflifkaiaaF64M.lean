/- What the methods of helpers.F64 give, one contract each. -/
import Derived.Test.YtgaodnflifkaiaaRows
import Derived.Test.YtgaodnflifkaiaaF64S
namespace Go.Proofs.Ytgaodnflifkaiaa
open Go.RowKit Go.Fl

theorem newF64 (x : Nat) (w : World) : Calls Try.prog 5 #[.float .f64 x] w fun e w' => e = .returned (.agg #[.float .f64 x]) ∧ w' = w.alloc (.cells #[.float .f64 x] 24) := by
  go_enter Try.func5, Try.ntmps5
  go_wp2
  exact bodyPost_ret (v := .agg #[.float .f64 x]) (by simp [results, Try.results5, go_sem]) rfl ⟨rfl, rfl⟩
theorem value (x : Nat) (w : World) : Calls Try.prog 7 #[.agg #[.float .f64 x]] w fun e w' => e = .returned (.float .f64 x) ∧ w' = w.alloc (.cells #[.float .f64 x] 24) := by
  go_enter Try.func7, Try.ntmps7
  go_wp2
  go_ret
  exact ⟨rfl, rfl⟩
theorem negF (x : Nat) (w : World) : Calls Try.prog 6 #[.agg #[.float .f64 x]] w (GivesJust (Op.negFloat .f64 x) w) := by
  go_enter Try.func6, Try.ntmps6
  go_wp2_with (go_at_call 5; refine (newF64 _ _).mono ?_; rintro e w' ⟨rfl, rfl⟩)
  refine bodyPost_ret (v := .agg #[.float .f64 _]) (by simp [results, Try.results6, go_sem]) rfl ⟨rfl, ?_⟩
  repeat' (first | exact Below.refl _ _ | refine Below.alloc ?_ ?_ _ | refine Below.setCell ?_ ?_ _ | refine below_drewN ?_ _ | (simp <;> omega))

end Go.Proofs.Ytgaodnflifkaiaa
