/- The reduction by three parts in math/sin.go leaves an argument under four fifths. No program in sight. -/
import Derived.Test.YtgaodnflifkaiaaDoorF64SC
namespace Go.Fl
open Ieee
set_option linter.unusedVariables false

abbrev kQ : Nat := 4608412980311869571
abbrev kA : Nat := 4605249456957292544
abbrev kB : Nat := 4495793288086814720
abbrev kC : Nat := 4388835458085048688
/-- The reduction by three parts. -/
structure Cody (x y m1 d1 m2 d2 m3 z : Nat) : Prop where
  h1 : floatBits .mul .f64 y kA = some m1
  h2 : floatBits .sub .f64 x m1 = some d1
  h3 : floatBits .mul .f64 y kB = some m2
  h4 : floatBits .sub .f64 d1 m2 = some d2
  h5 : floatBits .mul .f64 y kC = some m3
  h6 : floatBits .sub .f64 d2 m3 = some z
theorem cody_near {x y : Nat} (hx : Fin' x) (hy : Fin' y) (x0 : 0 ≤ rv x) (x1 : rv x ≤ 536870912) (E0 : 0 ≤ rv y) (E1 : rv y ≤ 1073741824)
    (c1 : rv x * (5734161139222659 / 4503599627370496) ≤ rv y + 1 + 1 / 4194304) (c2 : rv y - 1 - 1 / 4194304 ≤ rv x * (5734161139222659 / 4503599627370496)) :
    ∃ m1 d1 m2 d2 m3 z, Cody x y m1 d1 m2 d2 m3 z ∧ Fin' z ∧ rv z ≤ 4 / 5 ∧ -(4 / 5) ≤ rv z := by
  have s51 : stp 1051 = 1 / 8388608 := by rw [stp_val (c := 23) rfl]; decide +kernel
  have s28 : stp 1028 = 1 / 70368744177664 := by rw [stp_val (c := 46) rfl]; decide +kernel
  have vA : rv kA = 6588397 / 8388608 := v_kA.1
  have vB : rv kB = 1328173 / 35184372088832 := v_kB.1
  have vC : rv kC = 427063790847255 / 158456325028528675187087900672 := v_kCc.1
  obtain ⟨m1, g1, f1, a1, a2⟩ := mulE hy v_kA.2 (G := 1051) (by decide) s51 (by rw [v_kA.1]; grind) (by rw [v_kA.1]; grind)
  rw [v_kA.1] at a1 a2
  obtain ⟨d1, g2, f2, b1, b2⟩ := subE hx f1 (G := 1028) (by decide) s28 (by grind) (by grind)
  obtain ⟨m2, g3, f3, a3, a4⟩ := mulE hy v_kB.2 (G := 1028) (by decide) s28 (by rw [v_kB.1]; grind) (by rw [v_kB.1]; grind)
  rw [v_kB.1] at a3 a4
  obtain ⟨d2, g4, f4, b3, b4⟩ := subE f2 f3 (G := 1028) (by decide) s28 (by grind) (by grind)
  obtain ⟨m3, g5, f5, a5, a6⟩ := mulE hy v_kCc.2 (G := 1028) (by decide) s28 (by rw [v_kCc.1]; grind) (by rw [v_kCc.1]; grind)
  rw [v_kCc.1] at a5 a6
  obtain ⟨z, g6, f6, b5, b6⟩ := subE f4 f5 (G := 1028) (by decide) s28 (by grind) (by grind)
  exact ⟨m1, d1, m2, d2, m3, z, ⟨g1, g2, g3, g4, g5, g6⟩, f6, by grind, by grind⟩
/-! ### The polynomials at their coefficients -/
abbrev SinH (zz m0 a1 m1 a2 m2 a3 m3 a4 m4 p : Nat) : Prop := Hor 4460209587652500685 13716528389658582877 4523617212962785441 13774824197404483331 4575957461383575504 13818544856648471880 zz m0 a1 m1 a2 m2 a3 m3 a4 m4 p
abbrev CosH (zz m0 a1 m1 a2 m2 a3 m3 a4 m4 p : Nat) : Prop := Hor 13666448263388469915 4477121864728985349 13732177093698800582 4537941361668146421 13787419979223748497 4586165620538955083 zz m0 a1 m1 a2 m2 a3 m3 a4 m4 p
theorem sin_hor {zz : Nat} (hz : Fin' zz) (z0 : 0 ≤ rv zz) (z1 : rv zz ≤ 1) : ∃ m0 a1 m1 a2 m2 a3 m3 a4 m4 p, SinH zz m0 a1 m1 a2 m2 a3 m3 a4 m4 p ∧ Fin' p ∧ rv p ≤ 1 / 5 ∧ -(1 / 5) ≤ rv p := by
  obtain ⟨e0, e1⟩ := eh_small
  obtain ⟨m0, a1, m1, a2, m2, a3, m3, a4, m4, p, h, f, -, -, h3, h4⟩ := hor_near (C0 := 1 / 1000000000) (C1 := 1 / 10000000) (C2 := 1 / 100000) (C3 := 1 / 5000) (C4 := 1 / 100) (C5 := 9 / 50) (S := 199 / 1000)
    v_s0.2 v_s1.2 v_s2.2 v_s3.2 v_s4.2 v_s5.2 hz z0 z1 (by rw [v_s0.1]; decide +kernel) (by rw [v_s1.1]; decide +kernel) (by rw [v_s2.1]; decide +kernel) (by rw [v_s3.1]; decide +kernel) (by rw [v_s4.1]; decide +kernel) (by rw [v_s5.1]; decide +kernel) (by decide +kernel) (by decide +kernel)
  exact ⟨m0, a1, m1, a2, m2, a3, m3, a4, m4, p, h, f, by grind, by grind⟩
theorem cos_hor {zz : Nat} (hz : Fin' zz) (z0 : 0 ≤ rv zz) (z1 : rv zz ≤ 1) : ∃ m0 a1 m1 a2 m2 a3 m3 a4 m4 p, CosH zz m0 a1 m1 a2 m2 a3 m3 a4 m4 p ∧ Fin' p ∧ rv p ≤ 1 / 23 ∧ -(1 / 23) ≤ rv p := by
  obtain ⟨e0, e1⟩ := eh_small
  obtain ⟨m0, a1, m1, a2, m2, a3, m3, a4, m4, p, h, f, -, -, h3, h4⟩ := hor_near (C0 := 1 / 1000000000) (C1 := 1 / 100000000) (C2 := 1 / 1000000) (C3 := 1 / 40000) (C4 := 7 / 5000) (C5 := 209 / 5000) (S := 43 / 990)
    v_c0.2 v_c1.2 v_c2.2 v_c3.2 v_c4.2 v_c5.2 hz z0 z1 (by rw [v_c0.1]; decide +kernel) (by rw [v_c1.1]; decide +kernel) (by rw [v_c2.1]; decide +kernel) (by rw [v_c3.1]; decide +kernel) (by rw [v_c4.1]; decide +kernel) (by rw [v_c5.1]; decide +kernel) (by decide +kernel) (by decide +kernel)
  exact ⟨m0, a1, m1, a2, m2, a3, m3, a4, m4, p, h, f, by grind, by grind⟩
end Go.Fl
