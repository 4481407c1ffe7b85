/- math.Sin beside the series, and at tiny numbers. -/
import Derived.Test.YtgaodnflifkaiaaDoorSo
import Derived.Test.YtgaodnflifkaiaaDoorF64TH
namespace Go.Proofs.YtgaodnflifkaiaaDoor
open Go.RowKit Go.Fl
set_option linter.unusedVariables false
set_option linter.unusedSimpArgs false

theorem v_2A : rv 4609753056584663040 = (6588397 / 4194304 : Rat) ∧ Fin' 4609753056584663040 := by
  refine ⟨?_, by decide, by decide⟩
  rw [rv_const (e := 1022) (c := 52) (by decide) (by decide) (by decide)]; decide +kernel
theorem v_2B : rv 4500296887714185216 = (1328173 / 17592186044416 : Rat) ∧ Fin' 4500296887714185216 := by
  refine ⟨?_, by decide, by decide⟩
  rw [rv_const (e := 998) (c := 76) (by decide) (by decide) (by decide)]; decide +kernel
theorem v_2C : rv 4393339057712419184 = (427063790847255 / 79228162514264337593543950336 : Rat) ∧ Fin' 4393339057712419184 := by
  refine ⟨?_, by decide, by decide⟩
  rw [rv_const (e := 974) (c := 100) (by decide) (by decide) (by decide)]; decide +kernel
theorem sub_zero' {x : Nat} (h0 : 0 < x) (hx : x < infR) : floatBits .sub .f64 x 0 = some x := by
  rw [sub_is_add (by decide)]
  have hq : Fin' (Op.negFloat .f64 0) := ⟨by decide, by decide⟩
  have hv : val (Op.negFloat .f64 0) = 0 := by decide
  have hp := word_pos h0 hx
  exact add_tiny h0 hx hq (by rw [hv]; omega) (by rw [hv]; omega)
theorem cody_zero {x : Nat} (h0 : 0 < x) (hx : x < infR) : Cody x 0 0 x 0 x 0 x :=
  ⟨by decide, sub_zero' h0 hx, by decide, sub_zero' h0 hx, by decide, sub_zero' h0 hx⟩
theorem cody_two {x : Nat} (hx : Fin' x) (x0 : 78 / 100 ≤ rv x) (x1 : rv x ≤ 1) : ∃ d1 d2 z, Cody x 4611686018427387904 4609753056584663040 d1 4500296887714185216 d2 4393339057712419184 z ∧ Fin' z ∧ rv z ≤ rv x - c0 + 3 * eh ∧ rv x - c0 - 3 * eh ≤ rv z := by
  have hc : c0 = 6588397 / 4194304 + 1328173 / 17592186044416 + 427063790847255 / 79228162514264337593543950336 := by decide +kernel
  have e2 := eh_big
  obtain ⟨e0, e1⟩ := eh_small
  obtain ⟨d1, g2, f2, b1, b2⟩ := subE hx v_2A.2 (G := 1021) (by decide) stp_eh (by rw [v_2A.1]; grind) (by rw [v_2A.1]; grind)
  rw [v_2A.1] at b1 b2
  obtain ⟨d2, g4, f4, b3, b4⟩ := subE f2 v_2B.2 (G := 1021) (by decide) stp_eh (by rw [v_2B.1]; grind) (by rw [v_2B.1]; grind)
  rw [v_2B.1] at b3 b4
  obtain ⟨z, g6, f6, b5, b6⟩ := subE f4 v_2C.2 (G := 1021) (by decide) stp_eh (by rw [v_2C.1]; grind) (by rw [v_2C.1]; grind)
  rw [v_2C.1] at b5 b6
  rw [hc]
  exact ⟨d1, d2, z, ⟨by decide, g2, by decide, g4, by decide, g6⟩, f6, by grind, by grind⟩

/-- math.Sin beside the series: what it answers at x and at its opposite. -/
def SinNear (tab : Nat → Int) (x y : Nat) : Prop := Fin' y ∧ rv y ≤ tS (rv x) 14 + 15 / 2 * eh ∧ tS (rv x) 14 - 15 / 2 * eh ≤ rv y ∧ SinIs tab x y ∧ SinIs tab (Op.negFloat .f64 x) (Op.negFloat .f64 y)
theorem sin_near {x : Nat} (h0 : 0 < x) (h1 : x ≤ one') (tab : Nat → Int) : ∃ y, SinNear tab x y := by
  have h1' : x < 4737786807993761792 := Nat.lt_of_le_of_lt h1 (by decide)
  have hx : x < infR := Nat.lt_trans h1' (by decide)
  have fx := fin_pos hx
  obtain ⟨hk, hn, hx64, hfin⟩ := word_facts hx
  obtain ⟨v, hv, nv, rvv, v1, v2, x0, -⟩ := quart h0 h1'
  obtain ⟨t1, t2⟩ := tr_rv nv
  have hJv := f2u_small rvv nv
  have x1 : rv x ≤ 1 := by
    rw [← rv_one]
    refine rv_le_of_key ?_
    rw [hk, key_self (by decide)]; omega
  have y0 : 0 ≤ rv x * rv x := Rat.mul_nonneg x0 x0
  have y1 : rv x * rv x ≤ 1 := by
    have : 0 ≤ (1 - rv x) * (1 + rv x) := Rat.mul_nonneg (by grind) (by grind)
    grind
  obtain ⟨ta, tb⟩ := tail_small x1 (by grind) y0 y1
  obtain ⟨e0, e1⟩ := eh_small
  have hJ : tr v ≤ 1 := by
    have h : ((tr v : Int) : Rat) ≤ ((1 : Int) : Rat) + 1 / 2 := by
      have e : ((1 : Int) : Rat) = 1 := rfl
      rw [e]; grind
    refine Nat.le_of_not_lt fun hlt => ?_
    have h2 : ((2 : Int) : Rat) ≤ ((tr v : Int) : Rat) := Rat.intCast_le_intCast.2 (by omega)
    have c1 : ((1 : Int) : Rat) = 1 := rfl
    have c2 : ((2 : Int) : Rat) = 2 := rfl
    rw [c1] at h; rw [c2] at h2
    grind
  have w0 : floatOfInt .f64 0 = 0 := by decide
  rcases (show tr v = 0 ∨ tr v = 1 by omega) with hj | hj
  · rw [hj] at hJv t1 t2
    have c0' : (((0 : Nat) : Int) : Rat) = 0 := rfl
    rw [c0'] at t1 t2
    have z1 : rv x ≤ 11 / 14 := by grind
    have sq : rv x * rv x ≤ 121 / 196 := by
      have : 0 ≤ (11 / 14 - rv x) * (11 / 14 + rv x) := Rat.mul_nonneg (by grind) (by grind)
      grind
    obtain ⟨zz, y, hzz, ⟨m0, a1, n1, a2, n2, a3, n3, a4, n4, p, w, q, hS, hP⟩, fy, y1', y2'⟩ := sinQ fx z1 (by grind)
    have hs : SR x zz y := ⟨m0, a1, n1, a2, n2, a3, n3, a4, n4, p, w, q, hS, hP⟩
    obtain ⟨p1, p2⟩ := sin_cmp z1 (by grind) y0 sq
    have b1 : bits .and .u64 ((0 : Nat) : Int) 1 = 0 := and1 (J := 0) (by decide)
    have b7 : bits .and .u64 ((0 : Nat) : Int) 7 = 0 := and7 (J := 0) (by decide)
    exact ⟨y, fy, by grind, by grind,
      SinIs.of _ _ _ fun w T => sin_even0p x x zz y x hk hn hx64 hfin (by omega) (by omega) v ((0 : Nat) : Int) (by decide) (by decide) 0 0 0 x 0 x 0 hv hJv b1 b7 w0 (cody_zero h0 hx) hzz hs w T.s,
      SinIs.of _ _ _ fun w T => sin_even0n x x zz y x hk hn hx64 hfin (by omega) (by omega) v ((0 : Nat) : Int) (by decide) (by decide) 0 0 0 x 0 x 0 hv hJv b1 b7 w0 (cody_zero h0 hx) hzz hs w T.s⟩
  · rw [hj] at hJv t1 t2
    have c1' : (((1 : Nat) : Int) : Rat) = 1 := rfl
    rw [c1'] at t1 t2
    have z0 : 785 / 1000 ≤ rv x := by grind
    obtain ⟨d1, d2, z, hC, fz, r1, r2⟩ := cody_two fx (by grind) x1
    have hc1 : c0 ≤ 15707964 / 10000000 ∧ 15707963 / 10000000 ≤ c0 := by decide +kernel
    obtain ⟨zz, y, hzz, ⟨m0, a1, n1, a2, n2, a3, n3, a4, n4, p, h, a, ww, q, hS, hP⟩, fy, y1', y2'⟩ := cosQ (Z := rv x - c0) fz r1 r2 (by grind) (by grind)
    have hs : CR zz y := ⟨m0, a1, n1, a2, n2, a3, n3, a4, n4, p, h, a, ww, q, hS, hP⟩
    obtain ⟨p1, p2⟩ := cos_cmp (X := rv x) (Z := rv x - c0) (by grind) (by grind) (by grind)
    have b1 : bits .and .u64 ((1 : Nat) : Int) 1 = 1 := and1 (J := 1) (by decide)
    have b7 : bits .and .u64 (((1 : Nat) : Int) + 1) 7 = 2 := and7 (J := 2) (by decide)
    have w1 : floatOfInt .f64 ((1 : Nat) : Int) = one' := by decide
    have w2 : floatBits .add .f64 one' one' = some 4611686018427387904 := by decide
    exact ⟨y, fy, by grind, by grind,
      SinIs.of _ _ _ fun w T => sin_odd2p x z zz y x hk hn hx64 hfin (by omega) (by omega) v ((1 : Nat) : Int) (by decide) (by decide) one' 4611686018427387904 _ d1 _ d2 _ hv hJv b1 b7 w1 w2 hC hzz hs w T.c,
      SinIs.of _ _ _ fun w T => sin_odd2n x z zz y x hk hn hx64 hfin (by omega) (by omega) v ((1 : Nat) : Int) (by decide) (by decide) one' 4611686018427387904 _ d1 _ d2 _ hv hJv b1 b7 w1 w2 hC hzz hs w T.c⟩
end Go.Proofs.YtgaodnflifkaiaaDoor
