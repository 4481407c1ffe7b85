/- What the methods of helpers.F64 give, one contract each. -/
import Derived.Test.YtpobcpnikbiiiaaRows
import Derived.Test.YtpobcpnikbiiiaaF64S
namespace Go.Proofs.Ytpobcpnikbiiiaa
open Go.RowKit Go.Fl

theorem newF64 (x : Nat) (w : World) : Calls Try.prog 17 #[.float .f64 x] w fun e w' => e = .returned (.agg #[.float .f64 x]) ∧ w' = w.alloc (.cells #[.float .f64 x] 30) := by
  go_enter Try.func17, Try.ntmps17
  go_wp2
  exact bodyPost_ret (v := .agg #[.float .f64 x]) (by simp [results, Try.results17, go_sem]) rfl ⟨rfl, rfl⟩
theorem value (x : Nat) (w : World) : Calls Try.prog 18 #[.agg #[.float .f64 x]] w fun e w' => e = .returned (.float .f64 x) ∧ w' = w.alloc (.cells #[.float .f64 x] 30) := by
  go_enter Try.func18, Try.ntmps18
  go_wp2
  go_ret
  exact ⟨rfl, rfl⟩

end Go.Proofs.Ytpobcpnikbiiiaa
