/- The cube root's error at the words: the second betterment, and its cube. No program in sight. -/
import Derived.Test.YtgaodnflifkaiaaDoorF64Z
namespace Go.Fl
open Ieee
set_option linter.unusedVariables false

theorem int_of_rat {a b : Int} (h : (a : Rat) ≤ (b : Rat)) : a ≤ b := Rat.intCast_le_intCast.1 h
/-- A difference that is small beside what is taken away. -/
theorem sub_part {x y d A B C D : Nat} (hx : In x A B) (hy : In y C D) (hC : 100 ≤ C) (hD : D < 2000) (h : floatBits .sub .f64 x y = some d) (s1 : 512 * (rv x - rv y) ≤ rv y) (s2 : 512 * (rv y - rv x) ≤ rv y) :
    rv d ≤ rv x - rv y + Rt.ep / 256 * rv y ∧ rv x - rv y - Rt.ep / 256 * rv y ≤ rv d ∧ rung d < infR := by
  obtain ⟨n1, n2, n3, n4⟩ := neg_word hy.fin
  have hy64 : y < 2 ^ 64 := by have := hy.fin; unfold infR at this; omega
  obtain ⟨r, h', hm⟩ := add_mono (x := x) (y := Op.negFloat .f64 y) (rung_fin hx.fin) (by rw [n2]; exact hy.fin)
  rw [sub_is_add hy64] at h
  obtain rfl := pick h' h
  have hu := ur_pos
  have vy := val_self hy.fin
  have e0 : val x + val (Op.negFloat .f64 y) = val x - val y := by rw [n3, vy]; omega
  rw [e0] at hm
  have k1 : 512 * (val x - val y) ≤ (mag y : Int) * 1 := by
    apply int_of_rat
    rw [Rat.intCast_mul, Rat.intCast_sub, Int.mul_one, ← vy, rv_ur x, rv_ur y]
    have := Rat.mul_le_mul_of_nonneg_right s1 (Rat.le_of_lt hu)
    have e : ((512 : Int) : Rat) = 512 := rfl
    rw [e]; grind
  have k2 : -((mag y : Int) * 1) ≤ 512 * (val x - val y) := by
    apply int_of_rat
    rw [Rat.intCast_mul, Rat.intCast_sub, Int.mul_one, ← vy, Rat.intCast_neg, rv_ur x, rv_ur y]
    have := Rat.mul_le_mul_of_nonneg_right s2 (Rat.le_of_lt hu)
    have e : ((512 : Int) : Rat) = 512 := rfl
    rw [e]; grind
  have g1 : 2 ^ 100 ≤ mag y := Nat.le_trans (Nat.pow_le_pow_right (by decide) hC) hy.lo
  have g2 : mag y < 2 ^ (D + 1) := Nat.lt_of_le_of_lt hy.hi (Nat.pow_lt_pow_right (by decide) (by omega))
  obtain ⟨p1, p2, p3⟩ := near_part hm (by decide) g1 (by omega) g2 k1 k2
  obtain ⟨q1, q2⟩ := part_rat p1 p2
  have one : ((1 : Int) : Rat) = 1 := rfl
  have ey : ((mag y : Nat) : Rat) = rv y * ur := by rw [← rv_ur y, vy]; rfl
  rw [one, Rat.intCast_sub, rv_ur x, rv_ur y, rv_ur d, ey] at q1 q2
  refine ⟨?_, ?_, p3⟩
  · refine rle_cancel hu ?_
    grind
  · refine rle_cancel hu ?_
    grind
/-- A small quotient. -/
theorem quo_part {x y f C D : Nat} (hx : rung x < infR) (hy : In y C D) (h : floatBits .quo .f64 x y = some f) (s1 : 512 * rv x ≤ rv y) (s2 : -rv y ≤ 512 * rv x) :
    rv f * rv y ≤ rv x + Rt.ep / 256 * rv y ∧ rv x - Rt.ep / 256 * rv y ≤ rv f * rv y ∧ rung f < infR := by
  obtain ⟨r, h', hm⟩ := quo_mono hx (rung_fin hy.fin) hy.pos ub_eq
  obtain rfl := pick h' h
  have hu := ur_pos
  have hub := ub_eq
  have e1 : (((2 : Int) ^ ub : Int) : Rat) = ur := cast_pow2 ub
  have eM : ((2 ^ ub : Nat) : Int) = (2 : Int) ^ ub := (cast_pow ub).symm
  have hu0 := Rat.le_of_lt (Rat.mul_pos hu hu)
  have k1 : 512 * (val x * 2 ^ ub) ≤ ((2 ^ ub : Nat) : Int) * val y := by
    apply int_of_rat
    rw [eM, Rat.intCast_mul, Rat.intCast_mul, Rat.intCast_mul, e1, rv_ur x, rv_ur y]
    have := Rat.mul_le_mul_of_nonneg_right s1 hu0
    have e : ((512 : Int) : Rat) = 512 := rfl
    rw [e]; grind
  have k2 : -(((2 ^ ub : Nat) : Int) * val y) ≤ 512 * (val x * 2 ^ ub) := by
    apply int_of_rat
    rw [eM, Rat.intCast_neg, Rat.intCast_mul, Rat.intCast_mul, Rat.intCast_mul, e1, rv_ur x, rv_ur y]
    have := Rat.mul_le_mul_of_nonneg_right s2 hu0
    have e : ((512 : Int) : Rat) = 512 := rfl
    rw [e]; grind
  obtain ⟨gb, hgb⟩ : ∃ gb, gb = 1100 := ⟨_, rfl⟩
  obtain ⟨p1, p2, p3⟩ := near_part hm hy.pos (M := 2 ^ ub) (Nat.pow_le_pow_right (by decide) (by omega)) (B := gb) (by omega) (Nat.pow_lt_pow_right (by decide) (by omega)) k1 k2
  obtain ⟨q1, q2⟩ := part_rat p1 p2
  have eR : ((2 ^ ub : Nat) : Rat) = ur := by
    have : (((2 ^ ub : Nat) : Int) : Rat) = ur := by rw [eM]; exact e1
    exact this
  rw [Rat.intCast_mul, e1, eR, rv_ur x, rv_ur y, rv_ur f] at q1 q2
  have hu2 : 0 < ur * ur := Rat.mul_pos hu hu
  refine ⟨?_, ?_, p3⟩
  · refine rle_cancel hu2 ?_
    grind
  · refine rle_cancel hu2 ?_
    grind
/-- A product with a small number. -/
theorem mul_part {x y g A B : Nat} (hx : In x A B) (hA : 100 ≤ A) (hB : B < 2000) (hy : rung y < infR) (h : floatBits .mul .f64 x y = some g) (s1 : 512 * rv y ≤ 1) (s2 : -1 ≤ 512 * rv y) :
    rv g ≤ rv x * rv y + Rt.ep / 256 * rv x ∧ rv x * rv y - Rt.ep / 256 * rv x ≤ rv g ∧ rung g < infR := by
  obtain ⟨r, h', hm⟩ := mul_mono (rung_fin hx.fin) hy ub_eq
  obtain rfl := pick h' h
  have hu := ur_pos
  have px := Rat.le_of_lt hx.rv_pos
  have e1 : (((2 : Int) ^ ub : Int) : Rat) = ur := cast_pow2 ub
  have vx := val_self hx.fin
  have hK : (0 : Int) < 2 ^ ub := Int.pow_pos (by decide)
  have hu0 := Rat.le_of_lt (Rat.mul_pos hu hu)
  have k1 : 512 * (val x * val y) ≤ (mag x : Int) * 2 ^ ub := by
    apply int_of_rat
    rw [← vx, Rat.intCast_mul, Rat.intCast_mul, Rat.intCast_mul, e1, rv_ur x, rv_ur y]
    have t1 := Rat.mul_le_mul_of_nonneg_left s1 (Rat.mul_nonneg px hu0)
    have e : ((512 : Int) : Rat) = 512 := rfl
    rw [e]; grind
  have k2 : -((mag x : Int) * 2 ^ ub) ≤ 512 * (val x * val y) := by
    apply int_of_rat
    rw [← vx, Rat.intCast_neg, Rat.intCast_mul, Rat.intCast_mul, Rat.intCast_mul, e1, rv_ur x, rv_ur y]
    have t1 := Rat.mul_le_mul_of_nonneg_left s2 (Rat.mul_nonneg px hu0)
    have e : ((512 : Int) : Rat) = 512 := rfl
    rw [e]; grind
  have g1 : 2 ^ 100 ≤ mag x := Nat.le_trans (Nat.pow_le_pow_right (by decide) hA) hx.lo
  have g2 : mag x < 2 ^ (B + 1) := Nat.lt_of_le_of_lt hx.hi (Nat.pow_lt_pow_right (by decide) (by omega))
  obtain ⟨p1, p2, p3⟩ := near_part hm hK g1 (by omega) g2 k1 k2
  obtain ⟨q1, q2⟩ := part_rat p1 p2
  have ex : ((mag x : Nat) : Rat) = rv x * ur := by rw [← rv_ur x, vx]; rfl
  rw [Rat.intCast_mul, e1, ex, rv_ur x, rv_ur y, rv_ur g] at q1 q2
  have hu2 : 0 < ur * ur := Rat.mul_pos hu hu
  refine ⟨?_, ?_, p3⟩
  · refine rle_cancel hu2 ?_
    grind
  · refine rle_cancel hu2 ?_
    grind
/-- A sum with a number that is small beside the other. -/
theorem add_part {x y t A B : Nat} (hx : In x A B) (hA : 100 ≤ A) (hB : B < 1990) (hy : rung y < infR) (h : floatBits .add .f64 x y = some t) (s1 : 2 * rv y ≤ rv x) (s2 : -rv x ≤ 2 * rv y) :
    rv t ≤ (1 + Rt.ep) * (rv x + rv y) ∧ (1 - Rt.ep) * (rv x + rv y) ≤ rv t := by
  obtain ⟨r, h', hm⟩ := add_mono (rung_fin hx.fin) hy
  obtain rfl := pick h' h
  have hu := ur_pos
  have vx := val_self hx.fin
  have k1 : 2 * val y ≤ val x := by
    apply int_of_rat
    rw [Rat.intCast_mul, rv_ur x, rv_ur y]
    have := Rat.mul_le_mul_of_nonneg_right s1 (Rat.le_of_lt hu)
    have e : ((2 : Int) : Rat) = 2 := rfl
    rw [e]; grind
  have k2 : -val x ≤ 2 * val y := by
    apply int_of_rat
    rw [Rat.intCast_mul, Rat.intCast_neg, rv_ur x, rv_ur y]
    have := Rat.mul_le_mul_of_nonneg_right s2 (Rat.le_of_lt hu)
    have e : ((2 : Int) : Rat) = 2 := rfl
    rw [e]; grind
  have g1 : 2 ^ 100 ≤ mag x := Nat.le_trans (Nat.pow_le_pow_right (by decide) hA) hx.lo
  have l1 : (2 : Int) ^ 52 * 1 ≤ val x + val y := by rw [vx] at *; omega
  obtain ⟨g, hg⟩ : ∃ g, g = 2000 := ⟨_, rfl⟩
  have l2 : val x + val y < 2 ^ 53 * (2 ^ g * 1) := by
    have h1 : 2 ^ B ≤ 2 ^ g := Nat.pow_le_pow_right (by decide) (by omega)
    have := hx.hi
    have h3 : 0 < 2 ^ g := Nat.two_pow_pos _
    rw [cast_pow g]
    rw [vx] at *
    generalize 2 ^ g = G at *
    omega
  obtain ⟨n1, n2, _⟩ := near_pos hm (by decide) l1 (B := g) (by omega) l2
  obtain ⟨m1, m2⟩ := near_rat n1 n2
  have one : ((1 : Int) : Rat) = 1 := rfl
  rw [Rat.intCast_add, rv_ur x, rv_ur y, rv_ur t, one, ep_eq] at m1 m2
  constructor
  · refine rle_cancel hu ?_
    grind
  · refine rle_cancel hu ?_
    grind

theorem scaled (v : Rat) {u : Rat} (hu : 0 < u) : ∃ z : Rat, z * u = v := ⟨v / u, dmul v hu⟩
theorem cbB_near {x t2 P Q s2 r2 w d e f g t : Nat} (hx : In x P (P + 3)) (ht : In t2 (Q - 2) (Q + 7)) (hPQ : 3 * Q = P + 2145) (q1 : 715 ≤ Q) (q2 : Q ≤ 1414) (h : CbB x t2 s2 r2 w d e f g t)
    (c1 : rv t2 * rv t2 * rv t2 ≤ (1 + 1 / 100000) * rv x) (c2 : (1 - 1 / 100000) * rv x ≤ rv t2 * rv t2 * rv t2) :
    rv t * rv t * rv t ≤ (1 + 8 * Rt.ep) * rv x ∧ (1 - 8 * Rt.ep) * rv x ≤ rv t * rv t * rv t := by
  obtain ⟨u, hu⟩ : ∃ u, u = 1074 := ⟨_, rfl⟩
  obtain ⟨z, e1, i1⟩ := ht.mul ht hu (E := 2 * Q - 4 - 1074) (F := 2 * Q + 14 - 1074) (by omega) (by omega) (by omega)
  obtain rfl := pick e1 h.e1
  obtain ⟨z, e2, i2⟩ := hx.quo i1 hu (E := Q - 11) (F := Q + 10) (by omega) (by omega) (by omega)
  obtain rfl := pick e2 h.e2
  obtain ⟨z, e3, i3, _, _, _⟩ := ht.add ht (F := Q + 8) (by omega) (by omega) (by omega)
  obtain rfl := pick e3 h.e3
  obtain ⟨z, e5, i5, _, _, _⟩ := i3.add i2 (F := Q + 11) (by omega) (by omega) (by omega)
  obtain rfl := pick e5 h.e5
  obtain ⟨a1, a2⟩ := mul_rv ht ht (by omega) (by omega) h.e1
  obtain ⟨b1, b2⟩ := quo_rv hx i1 (by omega) (by omega) h.e2
  obtain ⟨w1, w2⟩ := add_rv ht ht (by omega) (by omega) (by omega) h.e3
  obtain ⟨f1, f2⟩ := add_rv i3 i2 (by omega) (by omega) (by omega) h.e5
  rw [ep_eq] at a1 a2 b1 b2 w1 w2 f1 f2
  have p0 := ht.rv_pos
  have X0 := hx.rv_pos
  have r0 := i2.rv_pos
  have E0 := i5.rv_pos
  obtain ⟨p, hp⟩ : ∃ p : Rat, p = rv t2 := ⟨_, rfl⟩
  have pp0 : 0 < p * p := by rw [hp]; exact Rat.mul_pos p0 p0
  have ppp0 : 0 < p * p * p := Rat.mul_pos pp0 (by rw [hp]; exact p0)
  have p0' : 0 < p := by rw [hp]; exact p0
  obtain ⟨S, hS⟩ := scaled (rv s2) pp0
  obtain ⟨R, hR⟩ := scaled (rv r2) p0'
  obtain ⟨W, hW⟩ := scaled (rv w) p0'
  obtain ⟨E, hE⟩ := scaled (rv e) p0'
  obtain ⟨q, hq⟩ := scaled (rv x) ppp0
  rw [← hp] at a1 a2 w1 w2 c1 c2
  -- the normal forms
  have nS1 : S ≤ 1 + Rt.ep := rle_cancel pp0 (by rw [hS]; exact a1)
  have nS2 : 1 - Rt.ep ≤ S := rle_cancel pp0 (by rw [hS]; exact a2)
  have nq1 : q ≤ 1 + 1 / 65536 := by
    refine rle_cancel ppp0 ?_
    rw [hq]; grind
  have nq2 : 1 - 1 / 65536 ≤ q := by
    refine rle_cancel ppp0 ?_
    rw [hq]; grind
  have nR0 : 0 ≤ R := rle_cancel p0' (by rw [hR]; grind)
  have eRS : R * S * (p * p * p) = rv r2 * rv s2 := by rw [← hR, ← hS]; grind
  have nR1 : R * S ≤ (1 + Rt.ep) * q := by
    refine rle_cancel ppp0 ?_
    rw [eRS, Rat.mul_assoc, hq]; exact b1
  have nR2 : (1 - Rt.ep) * q ≤ R * S := by
    refine rle_cancel ppp0 ?_
    rw [eRS, Rat.mul_assoc, hq]; exact b2
  have nW1 : W ≤ (1 + Rt.ep) * 2 := rle_cancel p0' (by rw [hW]; grind)
  have nW2 : (1 - Rt.ep) * 2 ≤ W := rle_cancel p0' (by rw [hW]; grind)
  have nE1 : E ≤ (1 + Rt.ep) * (W + R) := by
    refine rle_cancel p0' ?_
    have : (1 + Rt.ep) * (W + R) * p = (1 + Rt.ep) * (W * p + R * p) := by grind
    rw [hE, this, hW, hR]; exact f1
  have nE2 : (1 - Rt.ep) * (W + R) ≤ E := by
    refine rle_cancel p0' ?_
    have : (1 - Rt.ep) * (W + R) * p = (1 - Rt.ep) * (W * p + R * p) := by grind
    rw [hE, this, hW, hR]; exact f2
  -- r, coarsely
  have k1 : R * (1 - Rt.ep) ≤ R * S := Rat.mul_le_mul_of_nonneg_left nS2 nR0
  have k2 : R * S ≤ R * (1 + Rt.ep) := Rat.mul_le_mul_of_nonneg_left nS1 nR0
  have R1 : R ≤ 1 + 1 / 60000 := by grind
  have R2 : 1 - 1 / 60000 ≤ R := by grind
  have E1 : 299 / 100 ≤ E := by grind
  have E2 : E ≤ 301 / 100 := by grind
  -- the difference
  have hr2p : rv r2 = R * p := hR.symm
  obtain ⟨d1, d2, fd⟩ := sub_part i2 ht (by omega) (by omega) h.e4 (by
    rw [← hp, hr2p]
    have := Rat.mul_le_mul_of_nonneg_right R1 (Rat.le_of_lt p0')
    grind) (by
    rw [← hp, hr2p]
    have := Rat.mul_le_mul_of_nonneg_right R2 (Rat.le_of_lt p0')
    grind)
  obtain ⟨Dd, hD⟩ := scaled (rv d) p0'
  rw [← hp, hr2p, ← hD] at d1 d2
  have nD1 : Dd ≤ R - 1 + Rt.ep / 256 := rle_cancel p0' (by grind)
  have nD2 : R - 1 - Rt.ep / 256 ≤ Dd := rle_cancel p0' (by grind)
  have D1 : Dd ≤ 1 / 50000 := by grind
  have D2 : -(1 / 50000) ≤ Dd := by grind
  -- the quotient
  have hep : rv e = E * p := hE.symm
  obtain ⟨g1, g2, ff⟩ := quo_part fd i5 h.e6 (by
    rw [← hD, hep]
    have t1 := Rat.mul_le_mul_of_nonneg_right D1 (Rat.le_of_lt p0')
    have t2 := Rat.mul_le_mul_of_nonneg_right E1 (Rat.le_of_lt p0')
    grind) (by
    rw [← hD, hep]
    have t1 := Rat.mul_le_mul_of_nonneg_right D2 (Rat.le_of_lt p0')
    have t2 := Rat.mul_le_mul_of_nonneg_right E1 (Rat.le_of_lt p0')
    grind)
  rw [hep, ← hD] at g1 g2
  have nf1 : rv f * E ≤ Dd + Rt.ep / 256 * E := rle_cancel p0' (by grind)
  have nf2 : Dd - Rt.ep / 256 * E ≤ rv f * E := rle_cancel p0' (by grind)
  have Epos : 0 < E := by grind
  have F1 : rv f ≤ 1 / 100000 := by
    refine rle_cancel Epos ?_
    grind
  have F2 : -(1 / 100000) ≤ rv f := by
    refine rle_cancel Epos ?_
    grind
  -- the correction
  obtain ⟨m1, m2, fg⟩ := mul_part ht (by omega) (by omega) ff h.e7 (by grind) (by grind)
  obtain ⟨G, hG⟩ := scaled (rv g) p0'
  rw [← hp, ← hG] at m1 m2
  have nG1 : G ≤ rv f + Rt.ep / 256 := rle_cancel p0' (by grind)
  have nG2 : rv f - Rt.ep / 256 ≤ G := rle_cancel p0' (by grind)
  have G1 : G ≤ 1 / 50000 := by grind
  have G2 : -(1 / 50000) ≤ G := by grind
  obtain ⟨t1, t2'⟩ := add_part ht (by omega) (by omega) fg h.e8 (by
    rw [← hp, ← hG]
    have := Rat.mul_le_mul_of_nonneg_right G1 (Rat.le_of_lt p0')
    grind) (by
    rw [← hp, ← hG]
    have := Rat.mul_le_mul_of_nonneg_right G2 (Rat.le_of_lt p0')
    grind)
  obtain ⟨T, hT⟩ := scaled (rv t) p0'
  rw [← hp, ← hG, ← hT] at t1 t2'
  have nT1 : T ≤ (1 + Rt.ep) * (1 + G) := rle_cancel p0' (by grind)
  have nT2 : (1 - Rt.ep) * (1 + G) ≤ T := rle_cancel p0' (by grind)
  obtain ⟨y1, y2⟩ := Rt.stage2 nq1 nq2 nS1 nS2 nR0 nR1 nR2 nW1 nW2 nE1 nE2 nD1 nD2 nf1 nf2 nG1 nG2 nT1 nT2
  have z1 := Rat.mul_le_mul_of_nonneg_right y1 (Rat.le_of_lt ppp0)
  have z2 := Rat.mul_le_mul_of_nonneg_right y2 (Rat.le_of_lt ppp0)
  have eT : T * T * T * (p * p * p) = rv t * rv t * rv t := by rw [← hT]; grind
  have e8 : (1 + 8 * Rt.ep) * q * (p * p * p) = (1 + 8 * Rt.ep) * rv x := by rw [Rat.mul_assoc, hq]
  have e9 : (1 - 8 * Rt.ep) * q * (p * p * p) = (1 - 8 * Rt.ep) * rv x := by rw [Rat.mul_assoc, hq]
  rw [eT, e8] at z1
  rw [eT, e9] at z2
  exact ⟨z1, z2⟩

namespace Rt
theorem chop_cube {a p X : Rat} (a0 : 0 < a) (h1 : a ≤ p) (h2 : p ≤ (1 + 1 / 1048576) * a) (X0 : 0 < X) (c1 : a * a * a ≤ (1 + 1 / 200000) * X) (c2 : (1 - 1 / 200000) * X ≤ a * a * a) : p * p * p ≤ (1 + 1 / 100000) * X ∧ (1 - 1 / 100000) * X ≤ p * p * p := by
  have a0' := Rat.le_of_lt a0
  have p0 : 0 ≤ p := by grind
  have u1 : p * p ≤ (1 + 1 / 1048576) * a * ((1 + 1 / 1048576) * a) := mul_le' p0 h2 p0 h2
  have u3 : p * p * p ≤ (1 + 1 / 1048576) * a * ((1 + 1 / 1048576) * a) * ((1 + 1 / 1048576) * a) := mul_le' (Rat.mul_nonneg p0 p0) u1 p0 h2
  have u2 : a * a ≤ p * p := mul_le' a0' h1 a0' h1
  have u4 : a * a * a ≤ p * p * p := mul_le' (Rat.mul_nonneg a0' a0') u2 a0' h1
  obtain ⟨M, hM⟩ : ∃ M : Rat, M = a * a * a := ⟨_, rfl⟩
  have e : (1 + 1 / 1048576) * a * ((1 + 1 / 1048576) * a) * ((1 + 1 / 1048576) * a) = (1 + 1 / 1048576) * (1 + 1 / 1048576) * (1 + 1 / 1048576) * M := by rw [hM]; grind
  rw [e] at u3
  rw [← hM] at c1 c2 u4
  clear e hM u1 u2
  constructor <;> grind
theorem cube_round {t X m n : Rat} (t0 : 0 < t) (X0 : 0 < X) (c1 : t * t * t ≤ (1 + 8 * ep) * X) (c2 : (1 - 8 * ep) * X ≤ t * t * t) (m1 : m ≤ (1 + ep) * (t * t)) (m2 : (1 - ep) * (t * t) ≤ m) (n1 : n ≤ (1 + ep) * (m * t)) (n2 : (1 - ep) * (m * t) ≤ n) :
    n ≤ X + 12 * ep * X ∧ X - 12 * ep * X ≤ n := by
  have t0' := Rat.le_of_lt t0
  have p1 := Rat.mul_le_mul_of_nonneg_right m1 t0'
  have p2 := Rat.mul_le_mul_of_nonneg_right m2 t0'
  obtain ⟨C, hC⟩ : ∃ C : Rat, C = t * t * t := ⟨_, rfl⟩
  obtain ⟨M, hM⟩ : ∃ M : Rat, M = m * t := ⟨_, rfl⟩
  have r1 : M ≤ (1 + ep) * C := by grind
  have r2 : (1 - ep) * C ≤ M := by grind
  rw [← hC] at c1 c2
  rw [← hM] at n1 n2
  clear p1 p2 hC hM m1 m2
  constructor <;> grind
end Rt
theorem rough_rv {x T0 : Nat} (h52 : 2 ^ 52 ≤ x) (hx : x < infR) (hT : T0 = x / 3 + 3071306043645493248) (hTf : T0 < infR) : 5 * (rv T0 * rv T0 * rv T0) ≤ 6 * rv x ∧ 4 * rv x ≤ 5 * (rv T0 * rv T0 * rv T0) := by
  obtain ⟨h1, h2⟩ := rough_cube h52 hx hT ub_eq
  have hu := ur_pos
  have eR : ((2 ^ ub : Nat) : Rat) = ur := by
    have : (((2 ^ ub : Nat) : Int) : Rat) = ur := by rw [← cast_pow ub]; exact cast_pow2 ub
    exact this
  have ex : ((mag x : Nat) : Rat) = rv x * ur := by rw [← rv_ur x, val_self hx]; rfl
  have eT : ((mag T0 : Nat) : Rat) = rv T0 * ur := by rw [← rv_ur T0, val_self hTf]; rfl
  have c1 := (Rat.natCast_le_natCast (a := 4 * (mag x * (2 ^ ub * 2 ^ ub))) (b := 5 * (mag T0 * mag T0 * mag T0))).2 h1
  have c2 := (Rat.natCast_le_natCast (a := 5 * (mag T0 * mag T0 * mag T0)) (b := 6 * (mag x * (2 ^ ub * 2 ^ ub)))).2 h2
  rw [Rat.natCast_mul, Rat.natCast_mul, Rat.natCast_mul, Rat.natCast_mul, Rat.natCast_mul, Rat.natCast_mul, eR, ex, eT] at c1 c2
  have n4 : ((4 : Nat) : Rat) = 4 := rfl
  have n5 : ((5 : Nat) : Rat) = 5 := rfl
  have n6 : ((6 : Nat) : Rat) = 6 := rfl
  rw [n4, n5] at c1
  rw [n5, n6] at c2
  have hu3 : 0 < ur * ur * ur := Rat.mul_pos (Rat.mul_pos hu hu) hu
  constructor
  · refine rle_cancel hu3 ?_
    grind
  · refine rle_cancel hu3 ?_
    grind
theorem pow_pred {Q : Nat} (h : 3 ≤ Q) : 2 ^ (Q - 2) = 2 * 2 ^ (Q - 3) := by
  have e : Q - 2 = (Q - 3) + 1 := by omega
  rw [e, Nat.pow_succ']
/-- The cube root of a positive word, and the cube of that. -/
theorem cb_close {x : Nat} (hx : x < infR) (hlo : 2 ^ 177 ≤ mag x) {c : Nat} (hc : c = 1971) (hhi : mag x ≤ 2 ^ c) : ∃ t m n, CB x t ∧ 0 < t ∧ t < infR ∧ floatBits .mul .f64 t t = some m ∧ floatBits .mul .f64 m t = some n ∧ n < infR ∧ rv n ≤ rv x + 12 * Rt.ep * rv x ∧ rv x - 12 * Rt.ep * rv x ≤ rv n := by
  have h52 : 2 ^ 52 ≤ x := by
    apply Nat.le_of_not_lt; intro hlt
    have h1 : mag x = x := by unfold mag; rw [if_pos hlt]
    rw [h1] at hlo
    exact absurd (Nat.lt_of_lt_of_le hlt (show 2 ^ 52 ≤ 2 ^ 177 by decide)) (Nat.not_lt.2 hlo)
  obtain ⟨T0, P, Q, hR, hxi, hTi, hPQ, q1, q2⟩ := rough (show 0 < x by omega) hx
  obtain ⟨a1, r, b1, s, c1, c2, c3, c4, c5, t1, hA, ht1⟩ := cbA hxi hTi hPQ q1 q2
  have hch := chop ht1 q1 q2
  obtain ⟨s2, r2, w, d, e, f, g, t, hB, h1, h2, b2, b3⟩ := cbB hxi hch hPQ q1 q2
  have hT : T0 = x / 3 + 3071306043645493248 := by
    rcases hR with ⟨_, h⟩ | ⟨h, _⟩
    · exact h
    · omega
  obtain ⟨y1, y2⟩ := rough_rv h52 hx hT hTi.fin
  obtain ⟨n1, n2⟩ := cbA_near hxi hTi hPQ q1 q2 hA y1 y2
  obtain ⟨k1, k2⟩ := chop_near ht1 (by omega) hch.fin
  obtain ⟨v1, v2⟩ := Rt.chop_cube ht1.rv_pos k1 k2 hxi.rv_pos n1 n2
  obtain ⟨z1, z2⟩ := cbB_near hxi hch hPQ q1 q2 hB v1 v2
  -- where t lies
  have hP1 : 174 ≤ P := by
    apply Nat.le_of_not_lt; intro hlt
    have h3 : 2 ^ (P + 3) < 2 ^ 177 := Nat.pow_lt_pow_right (by decide) (by omega)
    have := hxi.hi
    omega
  have hP2 : P ≤ 1971 := by
    apply Nat.le_of_not_lt; intro hlt
    rw [← hc] at hlt
    have h3 : 2 ^ c < 2 ^ P := Nat.pow_lt_pow_right (by decide) hlt
    have := hxi.lo
    omega
  have hti : In t (Q - 3) (Q + 8) := by
    obtain ⟨t2, ht2⟩ : ∃ t2, t2 = t1 / 2 ^ 30 * 2 ^ 30 + 2 ^ 30 := ⟨_, rfl⟩
    rw [← ht2] at b2 b3 hch
    have hn : ¬ t2 < 2 ^ 53 := by
      intro hlt
      have h1 : mag t2 ≤ mag (2 ^ 53) := mag_le (Nat.le_of_lt hlt)
      have h2 : mag (2 ^ 53) = 2 ^ 53 := by decide
      have h3 : 2 ^ 54 ≤ 2 ^ (Q - 2) := Nat.pow_le_pow_right (by decide) (by omega)
      have := hch.lo
      omega
    have hdb : mag (t2 + 2 ^ 52) = 2 * mag t2 := by have := mag_dbl t2; rw [dbl, if_neg (by omega)] at this; exact this
    obtain ⟨q, hq⟩ : ∃ q, q + 2 ^ 52 = t2 := ⟨t2 - 2 ^ 52, by omega⟩
    have hhf : 2 * mag q = mag t2 := by
      have := mag_dbl q
      rw [dbl, if_neg (by omega), hq] at this
      omega
    have e1 := pow_pred (Q := Q) (by omega)
    have e2 : 2 ^ (Q + 8) = 2 * 2 ^ (Q + 7) := Nat.pow_succ'
    have l1 := mag_le (show q ≤ t by omega)
    have l2 := mag_le b3
    have := hch.lo
    have := hch.hi
    exact ⟨h2, by omega, by omega⟩
  obtain ⟨u, hu⟩ : ∃ u, u = 1074 := ⟨_, rfl⟩
  obtain ⟨m, em, im⟩ := hti.mul hti hu (E := 2 * Q - 6 - 1074) (F := 2 * Q + 16 - 1074) (by omega) (by omega) (by omega)
  obtain ⟨n, en, inn⟩ := im.mul hti hu (E := 3 * Q - 9 - 2148) (F := 3 * Q + 24 - 2148) (by omega) (by omega) (by omega)
  obtain ⟨a1', a2'⟩ := mul_rv hti hti (by omega) (by omega) em
  obtain ⟨a3', a4'⟩ := mul_rv im hti (by omega) (by omega) en
  rw [ep_eq] at a1' a2' a3' a4'
  obtain ⟨f1, f2⟩ := Rt.cube_round hti.rv_pos hxi.rv_pos z1 z2 a1' a2' a3' a4'
  exact ⟨t, m, n, ⟨T0, a1, r, b1, s, c1, c2, c3, c4, c5, t1, s2, r2, w, d, e, f, g, hR, hTi.fin, ht1.fin, hA, hB⟩, h1, h2, em, en, inn.fin, f1, f2⟩
end Go.Fl
