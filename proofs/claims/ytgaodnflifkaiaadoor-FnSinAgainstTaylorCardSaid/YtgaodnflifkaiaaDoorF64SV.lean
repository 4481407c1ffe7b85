/- What math/sin.go computes after the reduction, and the long reduction's end. No program in sight. -/
import Derived.Test.YtgaodnflifkaiaaDoorF64ST
namespace Go.Fl
open Ieee
set_option linter.unusedVariables false

abbrev kP : Nat := 4605249457297304856
/-- The end of the long reduction: a fraction, or the fraction less one, times a quarter of pi. -/
theorem trig_z {z : Nat} (h : z < one') : (∃ r, floatBits .mul .f64 z kP = some r ∧ Fin' r ∧ rv r ≤ 4 / 5 ∧ -(4 / 5) ≤ rv r) ∧
    (∃ d r, floatBits .sub .f64 z one' = some d ∧ floatBits .mul .f64 d kP = some r ∧ Fin' r ∧ rv r ≤ 4 / 5 ∧ -(4 / 5) ≤ rv r) := by
  obtain ⟨e0, e1⟩ := eh_small
  have e2 := eh_big
  have hz : z < infR := Nat.lt_trans h (by decide)
  have fz := fin_pos hz
  have z0 : 0 ≤ rv z := rv_nonneg (by rw [val_self hz]; omega)
  have z1 : rv z ≤ 1 := by
    rw [← rv_one]
    refine rv_le_of_key ?_
    rw [key_self hz, key_self (by decide)]; omega
  have s22 : stp 1022 = 2 * eh := by rw [stp_val (c := 52) rfl]; decide +kernel
  constructor
  · obtain ⟨r, hr, fr, r1, r2⟩ := mulE fz v_pi4.2 (G := 1021) (by decide) stp_eh (by rw [v_pi4.1]; grind) (by rw [v_pi4.1]; grind)
    rw [v_pi4.1] at r1 r2
    exact ⟨r, hr, fr, by grind, by grind⟩
  · obtain ⟨d, hd, fd, d1, d2⟩ := subE fz v_one.2 (G := 1022) (by decide) s22 (by rw [rv_one]; grind) (by rw [rv_one]; grind)
    rw [show rv 4607182418800017408 = 1 from rv_one] at d1 d2
    obtain ⟨r, hr, fr, r1, r2⟩ := mulE fd v_pi4.2 (G := 1021) (by decide) stp_eh (by rw [v_pi4.1]; grind) (by rw [v_pi4.1]; grind)
    rw [v_pi4.1] at r1 r2
    exact ⟨d, r, hd, hr, fr, by grind, by grind⟩
/-- Either road from the reduced argument on: all the words that it makes, and the last lies within one. -/
theorem sin_tail {z : Nat} (hz : Fin' z) (z1 : rv z ≤ 4 / 5) (z2 : -(4 / 5) ≤ rv z) : ∃ zz, floatBits .mul .f64 z z = some zz ∧
    (∃ m0 a1 m1 a2 m2 a3 m3 a4 m4 p w q y, SinH zz m0 a1 m1 a2 m2 a3 m3 a4 m4 p ∧ SinP z zz w p q y ∧ Fin' y ∧ rv y ≤ 1 ∧ -1 ≤ rv y) ∧
    (∃ m0 a1 m1 a2 m2 a3 m3 a4 m4 p h a ww q y, CosH zz m0 a1 m1 a2 m2 a3 m3 a4 m4 p ∧ CosP zz h a ww p q y ∧ Fin' y ∧ rv y ≤ 1 ∧ -1 ≤ rv y) := by
  obtain ⟨zz, hzz, fzz, q0, q1, -, -⟩ := sq_near hz z1 z2
  refine ⟨zz, hzz, ?_, ?_⟩
  · obtain ⟨m0, a1, m1, a2, m2, a3, m3, a4, m4, p, hh, fp, p1, p2⟩ := sin_hor fzz q0 (by grind)
    obtain ⟨w, q, y, hs, fy, y1, y2⟩ := sin_road hz fzz fp z1 z2 q0 q1 p1 p2
    exact ⟨m0, a1, m1, a2, m2, a3, m3, a4, m4, p, w, q, y, hh, hs, fy, y1, y2⟩
  · obtain ⟨m0, a1, m1, a2, m2, a3, m3, a4, m4, p, hh, fp, p1, p2⟩ := cos_hor fzz q0 (by grind)
    obtain ⟨h, a, ww, q, y, hs, fy, y1, y2⟩ := cos_road fzz fp q0 q1 p1 p2
    exact ⟨m0, a1, m1, a2, m2, a3, m3, a4, m4, p, h, a, ww, q, y, hh, hs, fy, y1, y2⟩
/-- What lies within one lies there by its key. -/
theorem key_one {y : Nat} (hy : Fin' y) (h1 : rv y ≤ 1) (h2 : -1 ≤ rv y) : key y ≤ key one' ∧ key (Op.negFloat .f64 one') ≤ key y ∧ nan y = false := by
  refine ⟨key_le_of_val_le (val_le_of_rv (by rw [rv_one]; exact h1)), key_le_of_val_le (val_le_of_rv (by rw [rv_neg (by decide), rv_one]; exact h2)), ?_⟩
  have := hy.fin
  unfold nan
  simp only [decide_eq_false_iff_not]
  omega
end Go.Fl
