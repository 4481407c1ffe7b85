/- Small contracts for the Sin laws of n011_268 (seat .D). -/
import Derived.Test.YtgaodnflifkaiaaDoorF64M
import Derived.OpenShut
import Derived.Deep.RegionHeld3
import Derived.Deep.DrawnRows
import Derived.Lib.Hide
import Derived.IntWalk
import Derived.Outline
import Derived.Test.YtgaodnflifkaiaaDoorF64D
import Derived.Test.YtgaodnflifkaiaaDoorF64SV
import Derived.Test.YtgaodnflifkaiaaDoorF64R
namespace Go.Proofs.YtgaodnflifkaiaaDoor
open Go.RowKit Go.Fl
set_option linter.unusedVariables false
set_option linter.unusedSimpArgs false
attribute [local go_sem ↓] Go.wp_at_zero Go.wp_at_succ

theorem isNaN' (x : Nat) (w : World) : Calls Tryd.prog 10 #[.float .f64 x] w fun e w' => e = .returned (.bool (nan x)) ∧ w = w' := by
  cases h : nan x
  all_goals
    go_enter Tryd.func10, Tryd.ntmps10
    go_wp2
    go_ret
    exact ⟨rfl, rfl⟩

theorem signNeg (x : Nat) (hn : nan x = false) (w : World) : Calls Tryd.prog 15 #[.float .f64 x] w fun e w' => e = .returned (.bool (neg x)) ∧ ∃ n, w' = w.drewN n := by
  rcases (show key x < 0 ∨ key x = 0 ∨ 0 < key x by omega) with h | h | h
  · have hs : neg x = true := by unfold key at h; cases hh : neg x <;> rw [hh] at h <;> simp at h ⊢; omega
    rw [hs]
    clear hs
    go_enter Tryd.func15, Tryd.ntmps15
    go_wp2
    go_ret
    exact ⟨rfl, 0, rfl⟩
  · have hi := fun w => inv_zero w h
    cases hh : neg x
    all_goals
      rw [hh] at hi
      simp only [if_true, if_false, Bool.false_eq_true] at hi
      go_enter Tryd.func15, Tryd.ntmps15
      go_wp2
      go_ret
      exact ⟨rfl, _, rfl⟩
  · have hs : neg x = false := by unfold key at h; cases hh : neg x <;> rw [hh] at h <;> simp at h ⊢; omega
    rw [hs]
    clear hs
    go_enter Tryd.func15, Tryd.ntmps15
    go_wp2
    go_ret
    exact ⟨rfl, 0, rfl⟩

theorem same_neg {x y : Nat} (hx : x < 2 ^ 64) (hy : y < 2 ^ 64) (h1 : nan x = false) (h2 : nan y = false) : (decide (key x = key y) && (neg x == neg y)) = sameB x y := by
  rw [Bool.eq_iff_iff]
  simp only [Bool.and_eq_true, decide_eq_true_eq, beq_iff_eq, sameB, h1, h2, Bool.and_self, Bool.false_or]
  constructor
  · rintro ⟨a, b⟩
    refine word_ext hx hy b ?_
    unfold key at a; rw [b] at a; cases hh : neg y <;> rw [hh] at a <;> simp at a <;> omega
  · rintro rfl; exact ⟨rfl, rfl⟩
theorem sameF (x y : Nat) (hx : x < 2 ^ 64) (hy : y < 2 ^ 64) (w : World) : Calls Tryd.prog 11 #[.float .f64 x, .float .f64 y] w fun e w' => e = .returned (.bool (sameB x y)) ∧ Below w.heap.size w w' := by
  cases h1 : nan x
  · cases h2 : nan y
    · have hs := same_neg hx hy h1 h2
      by_cases hk : key x = key y
      · have HS := Lib.hid hs
        clear hs
        have hd : decide (key x = key y) = true := by simpa using hk
        have HK := Lib.hid hk
        clear hk hx hy
        go_enter Tryd.func11, Tryd.ntmps11
        go_wp2_with (first | (go_at_call 10; refine (isNaN' _ _).mono ?_; rintro e w' ⟨rfl, rfl⟩) | (go_at_call 15; refine (signNeg _ (by assumption) _).mono ?_; rintro e w' ⟨rfl, n, rfl⟩))
        go_ret
        refine ⟨ret_bool (by rw [← HS.out]; simp [hd]), ?_⟩
        repeat' (first | exact Below.refl _ _ | refine below_alloc ?_ _ | refine below_drewN ?_ _ | refine Below.drew ?_ | refine below_step ?_ (by assumption))
      · have HS : sameB x y = false := by rw [← hs]; simp [hk]
        rw [HS]
        clear hs hx hy HS
        go_enter Tryd.func11, Tryd.ntmps11
        go_wp2_with (first | (go_at_call 10; refine (isNaN' _ _).mono ?_; rintro e w' ⟨rfl, rfl⟩) | (go_at_call 15; refine (signNeg _ (by assumption) _).mono ?_; rintro e w' ⟨rfl, n, rfl⟩))
        go_ret
        exact ⟨rfl, Below.refl _ _⟩
    · have HS : sameB x y = false := by simp [sameB, h1]; intro e; rw [e, h2] at h1; cases h1
      rw [HS]
      clear hx hy HS
      go_enter Tryd.func11, Tryd.ntmps11
      go_wp2_with (first | (go_at_call 10; refine (isNaN' _ _).mono ?_; rintro e w' ⟨rfl, rfl⟩) | (go_at_call 15; refine (signNeg _ (by assumption) _).mono ?_; rintro e w' ⟨rfl, n, rfl⟩))
      go_ret
      exact ⟨rfl, Below.refl _ _⟩
  · have HS : sameB x y = nan y := by
      cases h2 : nan y
      · simp [sameB, h2]; intro e; rw [e, h2] at h1; cases h1
      · simp [sameB, h1, h2]
    rw [HS]
    clear hx hy HS
    go_enter Tryd.func11, Tryd.ntmps11
    go_wp2_with (first | (go_at_call 10; refine (isNaN' _ _).mono ?_; rintro e w' ⟨rfl, rfl⟩) | (go_at_call 15; refine (signNeg _ (by assumption) _).mono ?_; rintro e w' ⟨rfl, n, rfl⟩))
    go_ret
    exact ⟨rfl, Below.refl _ _⟩

theorem bits_run (x : Nat) (w : World) : (callFunc 24 #[.float .f64 x]).run Tryd.prog w = .ok (.value (.int .u64 x)) w := by
  rw [run_callFunc_extern (fn := Tryd.f24) (e := Extern.MathFloatBits.float64bits) Tryd.func24 (by kernel_rfl) (by kernel_rfl) (by kernel_rfl) (by kernel_rfl)]
  rfl
theorem frombits_run (n : Int) (w : World) : (callFunc 23 #[.int .u64 n]).run Tryd.prog w = .ok (.value (.float .f64 n.toNat)) w := by
  rw [run_callFunc_extern (fn := Tryd.f23) (e := Extern.MathFloatBits.float64frombits) Tryd.func23 (by kernel_rfl) (by kernel_rfl) (by kernel_rfl) (by kernel_rfl)]
  rfl
theorem abs_bits {x : Nat} (hx : x < 2 ^ 64) : bits .andNot .u64 (x : Int) 9223372036854775808 = (rung x : Int) := by
  have e : (BitVec.ofInt 64 (x : Int) &&& ~~~(BitVec.ofInt 64 9223372036854775808)).toNat = rung x := by
    have h1 : ~~~(BitVec.ofInt 64 9223372036854775808) = BitVec.ofNat 64 (2 ^ 63 - 1) := by decide
    rw [h1, BitVec.toNat_and]
    have h2 : (BitVec.ofInt 64 (x : Int)).toNat = x := by
      rw [BitVec.ofInt_natCast, BitVec.toNat_ofNat]; exact Nat.mod_eq_of_lt hx
    rw [h2, BitVec.toNat_ofNat, Nat.mod_eq_of_lt (by decide), Nat.and_two_pow_sub_one_eq_mod]
    rfl
  have hl := rung_lt x
  unfold bits
  show IntKind.u64.wrap (((BitVec.ofInt 64 (x : Int) &&& ~~~(BitVec.ofInt 64 9223372036854775808)).toNat : Nat) : Int) = _
  rw [e]
  simp only [IntKind.wrap, IntKind.bits, IntKind.signed]
  simp
  omega
theorem absM (x : Nat) (hx : x < 2 ^ 64) (w : World) : Calls Tryd.prog 22 #[.float .f64 x] w fun e w' => e = .returned (.float .f64 (rung x)) ∧ w = w' := by
  have ha := abs_bits hx
  have hf := frombits_run
  have hb := bits_run
  generalize rung x = r at *
  go_enter Tryd.func22, Tryd.ntmps22
  go_wp2
  go_ret
  exact ⟨rfl, rfl⟩
theorem isNaNM (x : Nat) (w : World) : Calls Tryd.prog 18 #[.float .f64 x] w fun e w' => e = .returned (.bool (nan x)) ∧ w = w' := by
  cases h : nan x
  all_goals
    go_enter Tryd.func18, Tryd.ntmps18
    go_wp2
    go_ret
    exact ⟨rfl, rfl⟩
theorem isInfM (x : Nat) (hx : x < 2 ^ 64) (hn : nan x = false) (v : Bool) (hv : decide (rung x = infR) = v) (w : World) : Calls Tryd.prog 19 #[.float .f64 x, .int .i64 0] w fun e w' => e = .returned (.bool v) ∧ w = w' := by
  have hl := rung_lt x
  have h1 : rung (rung x) = rung x := by unfold rung; omega
  have h2 : neg (rung x) = false := by
    unfold neg
    have : rung x / 2 ^ 63 = 0 := by omega
    rw [this]; rfl
  have hnr : nan (rung x) = false := by unfold nan at *; rw [h1]; exact hn
  have hkr : key (rung x) = (rung x : Int) := by unfold key; rw [h1, h2]; simp
  have hk : key 9218868437227405311 = 9218868437227405311 := by decide
  have hc : nan 9218868437227405311 = false := by decide
  have hle : rung x ≤ infR := by have := hn; unfold nan at this; simpa using this
  have HX := Lib.hid hx
  have HV : Hid (v = decide (9218868437227405311 < (rung x : Int))) := Lib.hid (by
    rw [← hv, Bool.eq_iff_iff]
    simp only [decide_eq_true_eq]
    unfold infR at *
    omega)
  clear h1 h2 hv hle hl hx hn
  go_enter Tryd.func19, Tryd.ntmps19
  go_wp2_with (go_at_call 22; refine (absM _ HX.out _).mono ?_; rintro e w' ⟨rfl, rfl⟩)
  all_goals go_ret
  all_goals exact ⟨by rw [HV.out]; exact ret_bool (by simp <;> omega), rfl⟩
theorem f_some {op : BinOp} {x y z : Nat} (h : floatBits op .f64 x y = some z) : (∀ w, fop op w x y = z) ∧ fdr op x y = 0 := by
  unfold fop fdr; simp [h]

theorem conv_u64 {x : Nat} {J : Int} (h : floatToIntVal .f64 x .u64 = some J) (w : World) : (convert 22 33 (.float .f64 x)).run Tryd.prog w = .ok (.int .u64 J) w :=
  run_convert_float_int w _ _ .f64 .u64 x J (by rw [Tryd.underlying22]; rfl) Tryd.underlying33 h
end Go.Proofs.YtgaodnflifkaiaaDoor
