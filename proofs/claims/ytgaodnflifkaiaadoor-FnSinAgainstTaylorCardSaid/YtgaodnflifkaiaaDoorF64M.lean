/- What the methods of helpers.F64 give, one contract each. -/
import Derived.Test.YtgaodnflifkaiaaDoorRows
import Derived.Test.YtgaodnflifkaiaaDoorF64S
namespace Go.Proofs.YtgaodnflifkaiaaDoor
open Go.RowKit Go.Fl

theorem newF64 (x : Nat) (w : World) : Calls Tryd.prog 5 #[.float .f64 x] w fun e w' => e = .returned (.agg #[.float .f64 x]) ∧ w' = w.alloc (.cells #[.float .f64 x] 24) := by
  go_enter Tryd.func5, Tryd.ntmps5
  go_wp2
  exact bodyPost_ret (v := .agg #[.float .f64 x]) (by simp [results, Tryd.results5, go_sem]) rfl ⟨rfl, rfl⟩
theorem value (x : Nat) (w : World) : Calls Tryd.prog 8 #[.agg #[.float .f64 x]] w fun e w' => e = .returned (.float .f64 x) ∧ w' = w.alloc (.cells #[.float .f64 x] 24) := by
  go_enter Tryd.func8, Tryd.ntmps8
  go_wp2
  go_ret
  exact ⟨rfl, rfl⟩
theorem negF (x : Nat) (w : World) : Calls Tryd.prog 7 #[.agg #[.float .f64 x]] w (GivesJust (Op.negFloat .f64 x) w) := by
  go_enter Tryd.func7, Tryd.ntmps7
  go_wp2_with (go_at_call 5; refine (newF64 _ _).mono ?_; rintro e w' ⟨rfl, rfl⟩)
  refine bodyPost_ret (v := .agg #[.float .f64 _]) (by simp [results, Tryd.results7, go_sem]) rfl ⟨rfl, ?_⟩
  repeat' (first | exact Below.refl _ _ | refine Below.alloc ?_ ?_ _ | refine Below.setCell ?_ ?_ _ | refine below_drewN ?_ _ | (simp <;> omega))

end Go.Proofs.YtgaodnflifkaiaaDoor
