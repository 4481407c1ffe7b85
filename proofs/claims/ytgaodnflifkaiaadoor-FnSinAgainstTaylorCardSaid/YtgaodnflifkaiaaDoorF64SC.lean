/- The cosine's road of math/sin.go lies within one. No program in sight. -/
import Derived.Test.YtgaodnflifkaiaaDoorF64SI
namespace Go.Fl
open Ieee
set_option linter.unusedVariables false

/-- The word of one. -/
abbrev one' : Nat := 4607182418800017408
abbrev half' : Nat := 4602678819172646912
theorem rv_one : rv one' = 1 := v_one.1.trans (by decide +kernel)
/-- One and less than half a step over it comes out as one at most. -/
theorem one_half {x y r : Nat} (hx : Fin' x) (hy : Fin' y) (h : floatBits .add .f64 x y = some r) (h1 : rv x ≤ 1) (h2 : rv y < eh) : rv r ≤ 1 := by
  rw [← rv_one] at h1 ⊢
  have k1 := val_le_of_rv h1
  obtain ⟨G, hG⟩ : ∃ G, G = 1021 := ⟨_, rfl⟩
  have hs : stp G = eh := by rw [hG]; exact stp_eh
  have k2 : val y < 2 ^ G := by
    apply Rat.intCast_lt_intCast.1
    rw [cast_pow2 G, ← stp_ur G, hs, rv_ur y]
    exact Rat.mul_lt_mul_of_pos_right h2 ur_pos
  have m1 : mag one' = (2 ^ 52 + one' % 2 ^ 52) * 2 ^ (G + 1) := mag_normal (by rw [hG]; decide)
  have m2 : mag (one' + 1) = (2 ^ 52 + (one' + 1) % 2 ^ 52) * 2 ^ (G + 1) := mag_normal (by rw [hG]; decide)
  have r1 : one' % 2 ^ 52 = 0 := by decide
  have r2 : (one' + 1) % 2 ^ 52 = 1 := by decide
  have hv : val one' = (mag one' : Int) := val_self (by decide)
  rw [r1] at m1
  rw [r2] at m2
  have hk := add_half hx.fin hy.fin (z := one') (by decide) h (by
    rw [hv] at k1
    rw [m2]
    have e1 : ((2 ^ 52 + 1) * 2 ^ (G + 1) : Nat) = mag one' + 2 * 2 ^ G := by
      have ep : 2 ^ (G + 1) = 2 * 2 ^ G := by rw [Nat.pow_succ, Nat.mul_comm]
      rw [m1, ep]
      generalize 2 ^ G = g
      omega
    have e2 : ((2 ^ G : Nat) : Int) = (2 : Int) ^ G := by push_cast; rfl
    rw [e1]
    rw [← e2] at k2
    omega)
  have := key_self (x := one') (by decide)
  exact rv_le_of_key (by rw [this]; exact hk)
/-- The cosine's road. -/
structure CosP (zz h a ww p q y : Nat) : Prop where
  h1 : floatBits .mul .f64 half' zz = some h
  h2 : floatBits .sub .f64 one' h = some a
  h3 : floatBits .mul .f64 zz zz = some ww
  h4 : floatBits .mul .f64 ww p = some q
  h5 : floatBits .add .f64 a q = some y
theorem cos_road {zz p : Nat} (hzz : Fin' zz) (hp : Fin' p) (q0 : 0 ≤ rv zz) (q1 : rv zz ≤ 13 / 20) (p1 : rv p ≤ 1 / 23) (p2 : -(1 / 23) ≤ rv p) :
    ∃ h a ww q y, CosP zz h a ww p q y ∧ Fin' y ∧ rv y ≤ 1 ∧ -1 ≤ rv y := by
  obtain ⟨e0, e1⟩ := eh_small
  have e2 := eh_big
  have s20 : stp 1020 = eh / 2 := by rw [stp_val (c := 54) rfl]; decide +kernel
  have s22 : stp 1022 = 2 * eh := by rw [stp_val (c := 52) rfl]; decide +kernel
  have s16 : stp 1016 = eh / 32 := by rw [stp_val (c := 58) rfl]; decide +kernel
  have s24 : stp 924 = eh * (eh / 17592186044416) := by rw [stp_val (c := 150) rfl]; decide +kernel
  have vh : rv half' = 1 / 2 := v_half.1
  have hh0 : 0 ≤ rv half' * rv zz := by rw [vh]; exact Rat.mul_nonneg (by decide +kernel) q0
  obtain ⟨h, g1, fh, x1, x2⟩ := mulE v_half.2 hzz (G := 1020) (by decide) s20 (by rw [vh]; grind) (by rw [vh]; grind)
  have h0 := mul_over v_half.2 hzz g1 hh0
  rw [show rv 4602678819172646912 = 1 / 2 from vh] at x1 x2
  obtain ⟨a, g2, fa, a1, a2⟩ := subE v_one.2 fh (G := 1022) (by decide) s22 (by rw [rv_one]; grind) (by rw [rv_one]; grind)
  rw [show rv 4607182418800017408 = 1 from rv_one] at a1 a2
  have ale : rv a ≤ 1 := by
    rw [← rv_one]
    have g2' := g2
    rw [sub_is_add fh.lt] at g2'
    refine add_under v_one.2 (neg_fin fh) v_one.2 g2' ?_
    rw [rv_neg fh.lt]; grind
  have sq0 : 0 ≤ rv zz * rv zz := Rat.mul_nonneg q0 q0
  have sq1 : rv zz * rv zz ≤ 13 / 20 * rv zz := by
    have : 0 ≤ (13 / 20 - rv zz) * rv zz := Rat.mul_nonneg (by grind) q0
    grind
  obtain ⟨ww, g3, fw, w1, w2⟩ := mulE hzz hzz (G := 1020) (by decide) s20 (by grind) (by grind)
  have w0 := mul_over hzz hzz g3 sq0
  have pw := span_mul (a := rv p) (z := rv ww) (Z := 13 / 20 * rv zz + eh / 2) p1 p2 w0 (by grind) (by decide +kernel)
  obtain ⟨c1, c2⟩ := pw
  rw [Rat.mul_comm (rv p)] at c1 c2
  obtain ⟨q, g4, fq, y1, y2⟩ := mulE fw hp (G := 1016) (by decide) s16 (by grind) (by grind)
  obtain ⟨y, g5, fy, r1, r2⟩ := addE fa fq (G := 1022) (by decide) s22 (by grind) (by grind)
  refine ⟨h, a, ww, q, y, ⟨g1, g2, g3, g4, g5⟩, fy, ?_, by grind⟩
  by_cases hc : 16 * eh ≤ rv zz
  · rw [← rv_one]
    refine add_under fa fq v_one.2 g5 ?_
    rw [rv_one]; grind
  · refine one_half fa fq g5 ale ?_
    have hc' : rv zz ≤ 16 * eh := by grind
    have b1 : rv zz * rv zz ≤ 16 * eh * (16 * eh) := by
      have : 0 ≤ (16 * eh - rv zz) * (16 * eh + rv zz) := Rat.mul_nonneg (by grind) (by grind)
      grind
    grind
end Go.Fl
