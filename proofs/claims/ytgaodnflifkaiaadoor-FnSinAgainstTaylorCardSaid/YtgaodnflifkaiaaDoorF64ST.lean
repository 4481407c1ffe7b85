/- The integer part in math/sin.go, and the reduction after it. No program in sight. -/
import Derived.Test.YtgaodnflifkaiaaDoorF64SR
import Derived.Test.YtgaodnflifkaiaaDoorF64I
namespace Go.Fl
open Ieee
set_option linter.unusedVariables false

theorem f2u_small {x : Nat} (h : rung x < 4841369599423283200) (hn : neg x = false) : floatToIntVal .f64 x .u64 = some (tr x : Int) := by
  have hf : rung x < infR := Nat.lt_trans h (by decide)
  have ht := tr_small h
  unfold floatToIntVal
  have e : FloatKind.f64.decode x = double.read x := rfl
  rw [e, toInt_zero hf, hn]
  simp only [Bool.false_eq_true, if_false]
  have b : IntKind.u64.min ≤ (tr x : Int) ∧ (tr x : Int) ≤ IntKind.u64.max := by
    have e1 : IntKind.u64.min = 0 := by decide
    have e2 : IntKind.u64.max = 18446744073709551615 := by decide
    rw [e1, e2]; omega
  show (if IntKind.u64.min ≤ (tr x : Int) ∧ (tr x : Int) ≤ IntKind.u64.max then some (tr x : Int) else none) = some (tr x : Int)
  rw [if_pos b]
theorem U_ur : ((U : Int) : Rat) = ur := by
  rw [U_pow (e := ub) rfl]
  have : (((2 ^ ub : Nat) : Int)) = (2 : Int) ^ ub := by push_cast; rfl
  rw [this, cast_pow2]; rfl
theorem rv_foi {n : Int} (h : n.natAbs ≤ 2 ^ 53) : rv (floatOfInt .f64 n) = (n : Rat) := by
  unfold rv
  rw [val_foi h, Rat.intCast_mul, U_ur]
  have := ur_pos
  grind
theorem foi_fin {n : Int} (h : n.natAbs ≤ 2 ^ 52) : Fin' (floatOfInt .f64 n) := by
  rw [foi_iw]
  refine ⟨iw_lt _ _, ?_⟩
  have hm := iw_mag (decide (n < 0)) (n := n.natAbs) (by omega)
  have : mag (rung (iw (decide (n < 0)) n.natAbs)) ≤ mag 4841369599423283200 := by rw [hm, mag_52]; exact Nat.mul_le_mul_right _ h
  exact Nat.lt_of_le_of_lt (le_of_mag this) (by decide)
/-- The number over its integer part. -/
theorem tr_rv {v : Nat} (hn : neg v = false) : (((tr v : Int)) : Rat) ≤ rv v ∧ rv v ≤ (((tr v : Int)) : Rat) + 1 := by
  have hv : val v = (tr v : Int) * U + rs v := by rw [val_eq, hn]; simp
  have hr := rs_lt v
  have k1 : (tr v : Int) * (U : Int) ≤ val v := by omega
  have k2 : val v ≤ (tr v : Int) * (U : Int) + (U : Int) := by omega
  have m1 := Rat.intCast_le_intCast.2 k1
  have m2 := Rat.intCast_le_intCast.2 k2
  rw [Rat.intCast_mul, U_ur, rv_ur v] at m1
  rw [Rat.intCast_add, Rat.intCast_mul, U_ur, rv_ur v] at m2
  have hu := ur_pos
  constructor
  · exact rle_cancel hu m1
  · refine rle_cancel hu ?_
    grind
theorem word_pos {x : Nat} (h0 : 0 < x) (hx : x < infR) : 0 < val x := by
  rw [val_self hx]
  have : mag 1 ≤ mag x := mag_le h0
  have h1 : mag 1 = 1 := by decide
  omega
/-- A positive word times four over pi. -/
theorem quart {x : Nat} (h0 : 0 < x) (h1 : x < 4737786807993761792) : ∃ v, floatBits .mul .f64 x kQ = some v ∧ neg v = false ∧ rung v < 4841369599423283200 ∧
    rv v ≤ rv x * (5734161139222659 / 4503599627370496) + 1 / 8388608 ∧ rv x * (5734161139222659 / 4503599627370496) - 1 / 8388608 ≤ rv v ∧ 0 ≤ rv x ∧ rv x ≤ 536870912 := by
  have hx : x < infR := Nat.lt_trans h1 (by decide)
  have fx : Fin' x := fin_pos hx
  have hp := word_pos h0 hx
  have x0 := rv_nonneg (Int.le_of_lt hp)
  have hw : rv 4737786807993761792 = 536870912 := by
    rw [rv_const (e := 1051) (c := 23) (by decide) (by decide) (by decide)]; decide +kernel
  have x1 : rv x ≤ 536870912 := by
    rw [← hw]
    refine rv_le_of_key ?_
    rw [key_self hx, key_self (by decide)]; omega
  have s51 : stp 1051 = 1 / 8388608 := by rw [stp_val (c := 23) rfl]; decide +kernel
  obtain ⟨v, hv, fv, v1, v2⟩ := mulE fx v_kq.2 (G := 1051) (by decide) s51 (by rw [v_kq.1]; grind) (by rw [v_kq.1]; grind)
  rw [v_kq.1] at v1 v2
  obtain ⟨v', hv', hm⟩ := mul_mono fx.fin v_kq.2.fin ub_eq
  obtain rfl := pick hv' hv
  have kx : key x ≤ key v := by
    refine hm.ge x fx.fin ?_
    have hk : (2 : Int) ^ ub ≤ val kQ := by
      apply int_of_rat
      rw [cast_pow2, rv_ur kQ, show rv kQ = _ from v_kq.1]
      have := ur_pos
      show ur ≤ _
      grind
    exact Int.mul_le_mul_of_nonneg_left hk (Int.le_of_lt hp)
  rw [key_self hx] at kx
  have vp : 0 < val v := by
    have h := val_le_of_key_le (x := x) (y := v) (by rw [key_self hx]; exact kx)
    omega
  obtain ⟨n1, n2, n3⟩ := val_pos vp
  have hw2 : rv 4746794007248502784 = 2147483648 := by
    rw [rv_const (e := 1053) (c := 21) (by decide) (by decide) (by decide)]; decide +kernel
  have kv : key v ≤ key 4746794007248502784 := key_le_of_val_le (val_le_of_rv (by rw [hw2]; grind))
  rw [key_self (x := 4746794007248502784) (by decide), n3] at kv
  exact ⟨v, hv, n1, by omega, v1, v2, x0, x1⟩
/-- The whole reduction under the threshold: the integer part J, made even, and what is left. -/
theorem cw_all {x : Nat} (h0 : 0 < x) (h1 : x < 4737786807993761792) : ∃ v J : Nat, floatBits .mul .f64 x kQ = some v ∧ floatToIntVal .f64 v .u64 = some (J : Int) ∧ J ≤ 1073741823 ∧
    floatBits .add .f64 (floatOfInt .f64 (J : Int)) one' = some (floatOfInt .f64 ((J + 1 : Nat) : Int)) ∧
    ∃ m1 d1 m2 d2 m3 z, Cody x (floatOfInt .f64 ((J + J % 2 : Nat) : Int)) m1 d1 m2 d2 m3 z ∧ Fin' z ∧ rv z ≤ 4 / 5 ∧ -(4 / 5) ≤ rv z := by
  have hx : x < infR := Nat.lt_trans h1 (by decide)
  obtain ⟨v, hv, nv, rvv, v1, v2, x0, x1⟩ := quart h0 h1
  obtain ⟨t1, t2⟩ := tr_rv nv
  have hJ : tr v ≤ 1073741823 := by
    have : ((tr v : Int) : Rat) ≤ ((1073741823 : Int) : Rat) := by
      have e : ((1073741823 : Int) : Rat) = 1073741823 := rfl
      rw [e]; grind
    have := int_of_rat this
    omega
  have hE : (tr v + tr v % 2) ≤ 1073741824 := by omega
  have vE := rv_foi (n := ((tr v + tr v % 2 : Nat) : Int)) (by omega)
  have m2 : ((tr v : Int) : Rat) ≤ (((tr v + tr v % 2 : Nat) : Int) : Rat) := Rat.intCast_le_intCast.2 (by omega)
  have m3 : (((tr v + tr v % 2 : Nat) : Int) : Rat) ≤ ((tr v : Int) : Rat) + 1 := by
    have : (((tr v + tr v % 2 : Nat) : Int) : Rat) ≤ (((tr v : Int) + 1 : Int) : Rat) := Rat.intCast_le_intCast.2 (by omega)
    rw [Rat.intCast_add] at this
    exact this
  have m4 : (((tr v + tr v % 2 : Nat) : Int) : Rat) ≤ 1073741824 := by
    have : (((tr v + tr v % 2 : Nat) : Int) : Rat) ≤ ((1073741824 : Int) : Rat) := Rat.intCast_le_intCast.2 (by omega)
    exact this
  have m5 : 0 ≤ (((tr v + tr v % 2 : Nat) : Int) : Rat) := by
    have : ((0 : Int) : Rat) ≤ (((tr v + tr v % 2 : Nat) : Int) : Rat) := Rat.intCast_le_intCast.2 (by omega)
    exact this
  refine ⟨v, tr v, hv, f2u_small rvv nv, hJ, ?_, ?_⟩
  · have := add_ints (x := (tr v : Int)) (y := 1) (by omega) (by decide)
    rw [show floatOfInt .f64 1 = one' by decide] at this
    exact this
  · generalize hgE : (((tr v + tr v % 2 : Nat) : Int) : Rat) = E at *
    generalize hgJ : ((tr v : Int) : Rat) = Jr at *
    exact cody_near (fin_pos hx) (foi_fin (by omega)) x0 x1 (by rw [vE]; exact m5) (by rw [vE]; exact m4) (by rw [vE]; grind) (by rw [vE]; grind)
end Go.Fl
