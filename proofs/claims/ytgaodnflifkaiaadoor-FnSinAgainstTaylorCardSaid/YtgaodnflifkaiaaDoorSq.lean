/- The walk of taylorSin. -/
import Derived.Test.YtgaodnflifkaiaaDoorSp
import Derived.Test.YtgaodnflifkaiaaDoorSl
import Derived.Deep.LoopGhost
namespace Go.Proofs.YtgaodnflifkaiaaDoor
open Go.RowKit Go.Fl
set_option linter.unusedVariables false
set_option linter.unusedSimpArgs false
attribute [local go_sem ↓] Go.wp_at_zero Go.wp_at_succ

theorem den_wrap {k : Nat} (h : k < 14) : wrap64 (2 * ((k : Int) + 1) * (2 * ((k : Int) + 1) + 1)) = (((2 * (k + 1)) * (2 * (k + 1) + 1) : Nat) : Int) := by
  have : ∀ k : Fin 14, wrap64 (2 * ((k.1 : Int) + 1) * (2 * ((k.1 : Int) + 1) + 1)) = (((2 * (k.1 + 1)) * (2 * (k.1 + 1) + 1) : Nat) : Int)   := by unfold wrap64; decide
  exact this ⟨k, h⟩
theorem taylor_walk (x q u : Nat) (tw sw mw : Nat → Nat) (hq : floatBits .mul .f64 x x = some q) (hu : floatBits .sub .f64 0 q = some u) (hT : TW x u tw sw mw) (w : World) :
    Calls Tryd.prog 13 #[.float .f64 x] w fun e w' => e = .returned (.float .f64 (sw 14)) ∧ w' = w := by
  obtain ⟨fq, eq⟩ := f_some hq
  obtain ⟨fu, eu⟩ := f_some hu
  obtain ⟨t0, s0, st, -⟩ := hT
  have ST := Lib.hid st
  clear st hq hu
  go_enter Tryd.func13, Tryd.ntmps13
  go_wp2
  go_loopg [3, 4, 5] 14 (fun g z3 z4 z5 wr => wr = w ∧ ∃ k : Nat, k ≤ 14 ∧ g = 14 - k ∧ z3 = .float .f64 (tw k) ∧ z4 = .float .f64 (sw k) ∧ z5 = .int .i64 ((k : Int) + 1))
  case atStart => exact ⟨rfl, 0, by omega, rfl, by rw [t0], by rw [s0], rfl⟩
  case round =>
    obtain ⟨rfl, k, hk, rfl, rfl, rfl, rfl⟩ := hrel
    by_cases hlt : k < 14
    · obtain ⟨a1, a2, a3⟩ := ST.out k hlt
      have hw := den_wrap hlt
      generalize (((2 * (k + 1)) * (2 * (k + 1) + 1) : Nat) : Int) = Dn at hw a2
      generalize hD : floatOfInt .f64 Dn = dw at a2
      obtain ⟨f1, e1⟩ := f_some a1
      obtain ⟨f2, e2⟩ := f_some a2
      obtain ⟨f3, e3⟩ := f_some a3
      clear a1 a2 a3
      go_wp2
      go_roundg (14 - (k + 1))
      case rel => exact ⟨rfl, k + 1, by omega, rfl, rfl, rfl, by go_num⟩
      case measure => omega
    · obtain rfl : k = 14 := by omega
      go_wp2
      go_ret
      exact ⟨rfl, rfl⟩
end Go.Proofs.YtgaodnflifkaiaaDoor
