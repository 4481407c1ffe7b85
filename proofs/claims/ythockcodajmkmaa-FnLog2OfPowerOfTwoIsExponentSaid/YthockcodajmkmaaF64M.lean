/- What the methods of helpers.F64 give, one contract each. -/
import Derived.Test.YthockcodajmkmaaRows
import Derived.Test.YthockcodajmkmaaF64S
namespace Go.Proofs.Ythockcodajmkmaa
open Go.RowKit Go.Fl

theorem newF64 (x : Nat) (w : World) : Calls Try.prog 7 #[.float .f64 x] w fun e w' => e = .returned (.agg #[.float .f64 x]) ∧ w' = w.alloc (.cells #[.float .f64 x] 24) := by
  go_enter Try.func7, Try.ntmps7
  go_wp2
  exact bodyPost_ret (v := .agg #[.float .f64 x]) (by simp [results, Try.results7, go_sem]) rfl ⟨rfl, rfl⟩
theorem value (x : Nat) (w : World) : Calls Try.prog 9 #[.agg #[.float .f64 x]] w fun e w' => e = .returned (.float .f64 x) ∧ w' = w.alloc (.cells #[.float .f64 x] 24) := by
  go_enter Try.func9, Try.ntmps9
  go_wp2
  go_ret
  exact ⟨rfl, rfl⟩
theorem negF (x : Nat) (w : World) : Calls Try.prog 15 #[.agg #[.float .f64 x]] w (GivesJust (Op.negFloat .f64 x) w) := by
  go_enter Try.func15, Try.ntmps15
  go_wp2_with (go_at_call 7; refine (newF64 _ _).mono ?_; rintro e w' ⟨rfl, rfl⟩)
  refine bodyPost_ret (v := .agg #[.float .f64 _]) (by simp [results, Try.results15, go_sem]) rfl ⟨rfl, ?_⟩
  repeat' (first | exact Below.refl _ _ | refine Below.alloc ?_ ?_ _ | refine Below.setCell ?_ ?_ _ | refine below_drewN ?_ _ | (simp <;> omega))

end Go.Proofs.Ythockcodajmkmaa
