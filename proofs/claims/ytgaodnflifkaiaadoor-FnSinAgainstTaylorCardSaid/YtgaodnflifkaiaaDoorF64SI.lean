/- The two polynomials of math/sin.go: their values stay within one. No program in sight. -/
import Derived.Test.YtgaodnflifkaiaaDoorF64SK
namespace Go.Fl
open Ieee
set_option linter.unusedVariables false

theorem stp_val {G c : Nat} (h : G + c = ub) : stp G = 1 / (2 : Rat) ^ c := by
  have hc : (0 : Rat) < (2 : Rat) ^ c := Rat.pow_pos (by decide)
  have e : ur = (2 : Rat) ^ G * (2 : Rat) ^ c := by unfold ur; rw [← h, rpow_add]
  have hg : (0 : Rat) < (2 : Rat) ^ G := Rat.pow_pos (by decide)
  unfold stp; rw [e]
  grind
/-- The step under one. -/
def eh : Rat := 1 / 9007199254740992
theorem stp_eh : stp 1021 = eh := by rw [stp_val (c := 53) rfl]; decide +kernel
theorem mulE {x y G : Nat} {s : Rat} (hx : Fin' x) (hy : Fin' y) (hG : G ≤ 2044) (hs : stp G = s) (b1 : rv x * rv y < 9007199254740992 * s) (b2 : -(9007199254740992 * s) ≤ rv x * rv y) :
    ∃ r, floatBits .mul .f64 x y = some r ∧ Fin' r ∧ rv r ≤ rv x * rv y + s ∧ rv x * rv y - s ≤ rv r := by
  obtain ⟨r, h, -⟩ := mul_mono hx.fin hy.fin ub_eq
  subst hs
  exact ⟨r, h, mul_abs hx hy hG b1 b2 h⟩
theorem addE {x y G : Nat} {s : Rat} (hx : Fin' x) (hy : Fin' y) (hG : G ≤ 2044) (hs : stp G = s) (b1 : rv x + rv y < 9007199254740992 * s) (b2 : -(9007199254740992 * s) ≤ rv x + rv y) :
    ∃ r, floatBits .add .f64 x y = some r ∧ Fin' r ∧ rv r ≤ rv x + rv y + s ∧ rv x + rv y - s ≤ rv r := by
  obtain ⟨r, h, -⟩ := add_mono hx.fin hy.fin
  subst hs
  exact ⟨r, h, add_abs hx hy hG b1 b2 h⟩
theorem subE {x y G : Nat} {s : Rat} (hx : Fin' x) (hy : Fin' y) (hG : G ≤ 2044) (hs : stp G = s) (b1 : rv x - rv y < 9007199254740992 * s) (b2 : -(9007199254740992 * s) ≤ rv x - rv y) :
    ∃ r, floatBits .sub .f64 x y = some r ∧ Fin' r ∧ rv r ≤ rv x - rv y + s ∧ rv x - rv y - s ≤ rv r := by
  obtain ⟨r, h, -⟩ := add_mono hx.fin (neg_fin hy).fin
  rw [← sub_is_add hy.lt] at h
  subst hs
  exact ⟨r, h, sub_abs hx hy hG b1 b2 h⟩
/-- A product with a factor of either sign and one that lies between zero and Z. -/
theorem span_mul {a z A Z : Rat} (a1 : a ≤ A) (a2 : -A ≤ a) (z0 : 0 ≤ z) (z1 : z ≤ Z) (hA : 0 ≤ A) : a * z ≤ A * Z ∧ -(A * Z) ≤ a * z := by
  have h1 : 0 ≤ (A - a) * z := Rat.mul_nonneg (by grind) z0
  have h2 : 0 ≤ (a + A) * z := Rat.mul_nonneg (by grind) z0
  have h3 : 0 ≤ A * (Z - z) := Rat.mul_nonneg hA (by grind)
  constructor <;> grind
/-- One step of Horner's scheme under one. -/
theorem hstep {a z c : Nat} {A C : Rat} (ha : Fin' a) (hz : Fin' z) (hc : Fin' c) (hA : 0 ≤ A) (a1 : rv a ≤ A) (a2 : -A ≤ rv a) (z0 : 0 ≤ rv z) (z1 : rv z ≤ 1) (c1 : rv c ≤ C) (c2 : -C ≤ rv c) (hs : A + C ≤ 1 / 2) (hC : 0 ≤ C) :
    ∃ m r, floatBits .mul .f64 a z = some m ∧ floatBits .add .f64 m c = some r ∧ Fin' m ∧ Fin' r ∧ rv r ≤ rv a * rv z + rv c + 2 * eh ∧ rv a * rv z + rv c - 2 * eh ≤ rv r := by
  have he : eh = 1 / 9007199254740992 := rfl
  obtain ⟨p1, p2⟩ := span_mul a1 a2 z0 z1 hA
  obtain ⟨m, hm, fm, m1, m2⟩ := mulE ha hz (G := 1021) (by decide) stp_eh (by rw [he]; grind) (by rw [he]; grind)
  obtain ⟨r, hr, fr, r1, r2⟩ := addE fm hc (G := 1021) (by decide) stp_eh (by rw [he] at *; grind) (by rw [he] at *; grind)
  exact ⟨m, r, hm, hr, fm, fr, by grind, by grind⟩
/-- One step of Horner's scheme, with the error that it carries on. -/
theorem hstep' {a z c : Nat} {A C e E : Rat} (ha : Fin' a) (hz : Fin' z) (hc : Fin' c) (hA : 0 ≤ A) (a1 : rv a ≤ A) (a2 : -A ≤ rv a) (z0 : 0 ≤ rv z) (z1 : rv z ≤ 1) (c1 : rv c ≤ C) (c2 : -C ≤ rv c) (hs : A + C ≤ 1 / 2) (hC : 0 ≤ C) (he : 0 ≤ e) (e1 : rv a ≤ E + e) (e2 : E - e ≤ rv a) :
    ∃ m r, floatBits .mul .f64 a z = some m ∧ floatBits .add .f64 m c = some r ∧ Fin' m ∧ Fin' r ∧ rv r ≤ A + C + 2 * eh ∧ -(A + C + 2 * eh) ≤ rv r ∧ rv r ≤ E * rv z + rv c + (e + 2 * eh) ∧ E * rv z + rv c - (e + 2 * eh) ≤ rv r := by
  obtain ⟨m, r, hm, hr, fm, fr, r1, r2⟩ := hstep ha hz hc hA a1 a2 z0 z1 c1 c2 hs hC
  obtain ⟨p1, p2⟩ := span_mul a1 a2 z0 z1 hA
  obtain ⟨q1, q2⟩ := span_mul (a := rv a - E) (A := e) (by grind) (by grind) z0 z1 he
  exact ⟨m, r, hm, hr, fm, fr, by grind, by grind, by grind, by grind⟩
/-- Horner's scheme of six coefficients. -/
structure Hor (c0 c1 c2 c3 c4 c5 z m0 a1 m1 a2 m2 a3 m3 a4 m4 p : Nat) : Prop where
  h0 : floatBits .mul .f64 c0 z = some m0
  h1 : floatBits .add .f64 m0 c1 = some a1
  h2 : floatBits .mul .f64 a1 z = some m1
  h3 : floatBits .add .f64 m1 c2 = some a2
  h4 : floatBits .mul .f64 a2 z = some m2
  h5 : floatBits .add .f64 m2 c3 = some a3
  h6 : floatBits .mul .f64 a3 z = some m3
  h7 : floatBits .add .f64 m3 c4 = some a4
  h8 : floatBits .mul .f64 a4 z = some m4
  h9 : floatBits .add .f64 m4 c5 = some p
/-- The polynomial. -/
def hp (c0 c1 c2 c3 c4 c5 z : Rat) : Rat := ((((c0 * z + c1) * z + c2) * z + c3) * z + c4) * z + c5
theorem hor_near {c0 c1 c2 c3 c4 c5 z : Nat} {C0 C1 C2 C3 C4 C5 : Rat} (f0 : Fin' c0) (f1 : Fin' c1) (f2 : Fin' c2) (f3 : Fin' c3) (f4 : Fin' c4) (f5 : Fin' c5) (fz : Fin' z) (z0 : 0 ≤ rv z) (z1 : rv z ≤ 1)
    (b0 : rv c0 ≤ C0 ∧ -C0 ≤ rv c0 ∧ 0 ≤ C0) (b1 : rv c1 ≤ C1 ∧ -C1 ≤ rv c1 ∧ 0 ≤ C1) (b2 : rv c2 ≤ C2 ∧ -C2 ≤ rv c2 ∧ 0 ≤ C2) (b3 : rv c3 ≤ C3 ∧ -C3 ≤ rv c3 ∧ 0 ≤ C3) (b4 : rv c4 ≤ C4 ∧ -C4 ≤ rv c4 ∧ 0 ≤ C4) (b5 : rv c5 ≤ C5 ∧ -C5 ≤ rv c5 ∧ 0 ≤ C5)
    {S : Rat} (hs : C0 + C1 + C2 + C3 + C4 + C5 ≤ S) (hS : S ≤ 1 / 4) :
    ∃ m0 a1 m1 a2 m2 a3 m3 a4 m4 p, Hor c0 c1 c2 c3 c4 c5 z m0 a1 m1 a2 m2 a3 m3 a4 m4 p ∧ Fin' p ∧ rv p ≤ hp (rv c0) (rv c1) (rv c2) (rv c3) (rv c4) (rv c5) (rv z) + 10 * eh ∧ hp (rv c0) (rv c1) (rv c2) (rv c3) (rv c4) (rv c5) (rv z) - 10 * eh ≤ rv p ∧ rv p ≤ S + 10 * eh ∧ -(S + 10 * eh) ≤ rv p := by
  have he : eh = 1 / 9007199254740992 := rfl
  have he0 : 0 ≤ eh := by rw [he]; decide +kernel
  have he1 : 100 * eh ≤ 1 / 8 := by rw [he]; decide +kernel
  clear he
  obtain ⟨m0, a1, g0, g1, -, fa1, u1, v1, x1, y1⟩ := hstep' (E := rv c0) (e := 0) f0 fz f1 b0.2.2 b0.1 b0.2.1 z0 z1 b1.1 b1.2.1 (by grind) b1.2.2 (by grind) (by grind) (by grind)
  obtain ⟨m1, a2, g2, g3, -, fa2, u2, v2, x2, y2⟩ := hstep' fa1 fz f2 (by grind) u1 v1 z0 z1 b2.1 b2.2.1 (by grind) b2.2.2 (by grind) x1 y1
  obtain ⟨m2, a3, g4, g5, -, fa3, u3, v3, x3, y3⟩ := hstep' fa2 fz f3 (by grind) u2 v2 z0 z1 b3.1 b3.2.1 (by grind) b3.2.2 (by grind) x2 y2
  obtain ⟨m3, a4, g6, g7, -, fa4, u4, v4, x4, y4⟩ := hstep' fa3 fz f4 (by grind) u3 v3 z0 z1 b4.1 b4.2.1 (by grind) b4.2.2 (by grind) x3 y3
  obtain ⟨m4, p, g8, g9, -, fp, u5, v5, x5, y5⟩ := hstep' fa4 fz f5 (by grind) u4 v4 z0 z1 b5.1 b5.2.1 (by grind) b5.2.2 (by grind) x4 y4
  refine ⟨m0, a1, m1, a2, m2, a3, m3, a4, m4, p, ⟨g0, g1, g2, g3, g4, g5, g6, g7, g8, g9⟩, fp, ?_, ?_, by grind, by grind⟩
  · unfold hp
    refine Rat.le_trans x5 ?_
    have : (0 : Rat) + 2 * eh + 2 * eh + 2 * eh + 2 * eh + 2 * eh = 10 * eh := by grind
    rw [this]; exact Rat.le_refl
  · unfold hp
    refine Rat.le_trans ?_ y5
    have : (0 : Rat) + 2 * eh + 2 * eh + 2 * eh + 2 * eh + 2 * eh = 10 * eh := by grind
    rw [this]; exact Rat.le_refl
theorem rv_nonneg {x : Nat} (h : 0 ≤ val x) : 0 ≤ rv x := by
  have hu := ur_pos
  have e := rv_ur x
  have h1 : (0 : Rat) ≤ (val x : Rat) := Rat.intCast_nonneg.2 h
  refine rle_cancel hu ?_
  grind
theorem val_le_of_rv {x y : Nat} (h : rv x ≤ rv y) : val x ≤ val y := by
  apply int_of_rat
  rw [rv_ur x, rv_ur y]
  exact Rat.mul_le_mul_of_nonneg_right h (Rat.le_of_lt ur_pos)
theorem rv_le_of_val {x y : Nat} (h : val x ≤ val y) : rv x ≤ rv y := by
  refine rle_cancel ur_pos ?_
  rw [← rv_ur x, ← rv_ur y]
  exact Rat.intCast_le_intCast.2 h
theorem rv_le_of_key {x y : Nat} (h : key x ≤ key y) : rv x ≤ rv y := rv_le_of_val (val_le_of_key_le h)
/-- A sum lies under a word if the exact sum does. -/
theorem add_under {x y r z : Nat} (hx : Fin' x) (hy : Fin' y) (hz : Fin' z) (h : floatBits .add .f64 x y = some r) (hh : rv x + rv y ≤ rv z) : rv r ≤ rv z := by
  obtain ⟨r', h', hm⟩ := add_mono hx.fin hy.fin
  obtain rfl := pick h' h
  refine rv_le_of_key (hm.le z hz.fin ?_)
  apply int_of_rat
  rw [Rat.intCast_add, rv_ur x, rv_ur y, Rat.intCast_mul, rv_ur z]
  have t := Rat.mul_le_mul_of_nonneg_right hh (Rat.le_of_lt ur_pos)
  have c2 : ((1 : Int) : Rat) = 1 := rfl
  rw [c2]; grind
/-- A product lies over zero if the exact product does. -/
theorem mul_over {x y r : Nat} (hx : Fin' x) (hy : Fin' y) (h : floatBits .mul .f64 x y = some r) (hh : 0 ≤ rv x * rv y) : 0 ≤ rv r := by
  obtain ⟨r', h', hm⟩ := mul_mono hx.fin hy.fin ub_eq
  obtain rfl := pick h' h
  have hu := ur_pos
  have hk := hm.ge 0 (by decide) (by
    rw [val_zero, Int.zero_mul]
    apply int_of_rat
    rw [Rat.intCast_mul, rv_ur x, rv_ur y]
    have t := Rat.mul_nonneg hh (Rat.le_of_lt (Rat.mul_pos hu hu))
    have c0 : ((0 : Int) : Rat) = 0 := rfl
    rw [c0]; grind)
  rw [key_zero] at hk
  exact rv_nonneg ((key_nonneg_iff _).1 hk)
theorem eh_small : 0 ≤ eh ∧ 1000000000 * eh ≤ 1 := by
  have he : eh = 1 / 9007199254740992 := rfl
  rw [he]; constructor <;> decide +kernel
theorem eh_big : 9007199254740992 * eh = 1 := by
  have he : eh = 1 / 9007199254740992 := rfl
  rw [he]; decide +kernel
/-- The square. -/
theorem sq_near {z : Nat} (hz : Fin' z) (z1 : rv z ≤ 4 / 5) (z2 : -(4 / 5) ≤ rv z) : ∃ zz, floatBits .mul .f64 z z = some zz ∧ Fin' zz ∧ 0 ≤ rv zz ∧ rv zz ≤ 13 / 20 ∧ rv zz ≤ rv z * rv z + eh ∧ rv z * rv z - eh ≤ rv zz := by
  obtain ⟨e0, e1⟩ := eh_small
  have e2 := eh_big
  have p0 : 0 ≤ rv z * rv z := by
    rcases Rat.le_total (a := 0) (b := rv z) with h | h
    · exact Rat.mul_nonneg h h
    · have : 0 ≤ -rv z * -rv z := Rat.mul_nonneg (by grind) (by grind)
      grind
  have p1 : rv z * rv z ≤ 16 / 25 := by
    have : 0 ≤ (4 / 5 - rv z) * (4 / 5 + rv z) := Rat.mul_nonneg (by grind) (by grind)
    grind
  obtain ⟨zz, h, f, h1, h2⟩ := mulE hz hz (G := 1021) (by decide) stp_eh (by grind) (by grind)
  exact ⟨zz, h, f, mul_over hz hz h p0, by grind, h1, h2⟩
/-- The sine's road. -/
structure SinP (z zz w p q y : Nat) : Prop where
  h1 : floatBits .mul .f64 z zz = some w
  h2 : floatBits .mul .f64 w p = some q
  h3 : floatBits .add .f64 z q = some y
theorem sin_road {z zz p : Nat} (hz : Fin' z) (hzz : Fin' zz) (hp : Fin' p) (z1 : rv z ≤ 4 / 5) (z2 : -(4 / 5) ≤ rv z) (q0 : 0 ≤ rv zz) (q1 : rv zz ≤ 13 / 20) (p1 : rv p ≤ 1 / 5) (p2 : -(1 / 5) ≤ rv p) :
    ∃ w q y, SinP z zz w p q y ∧ Fin' y ∧ rv y ≤ 1 ∧ -1 ≤ rv y := by
  obtain ⟨e0, e1⟩ := eh_small
  have e2 := eh_big
  obtain ⟨s1, s2⟩ := span_mul z1 z2 q0 q1 (by decide +kernel)
  obtain ⟨w, h1, fw, w1, w2⟩ := mulE hz hzz (G := 1021) (by decide) stp_eh (by grind) (by grind)
  have wa : rv w ≤ 11 / 20 := by grind
  have wb : -(11 / 20) ≤ rv w := by grind
  have t1 : rv w * rv p ≤ 11 / 100 ∧ -(11 / 100) ≤ rv w * rv p := by
    rcases Rat.le_total (a := 0) (b := rv p) with h | h
    · obtain ⟨a, b⟩ := span_mul wa wb h p1 (by decide +kernel)
      constructor <;> grind
    · obtain ⟨a, b⟩ := span_mul (z := -rv p) (Z := 1 / 5) wa wb (by grind) (by grind) (by decide +kernel)
      constructor <;> grind
  obtain ⟨q, h2, fq, u1, u2⟩ := mulE fw hp (G := 1021) (by decide) stp_eh (by grind) (by grind)
  obtain ⟨y, h3, fy, y1, y2⟩ := addE hz fq (G := 1021) (by decide) stp_eh (by grind) (by grind)
  exact ⟨w, q, y, ⟨h1, h2, h3⟩, fy, by grind, by grind⟩
end Go.Fl
