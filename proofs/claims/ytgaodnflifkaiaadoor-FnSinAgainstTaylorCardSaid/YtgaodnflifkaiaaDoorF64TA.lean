/- A sum of finite words lies within half a step of the true sum. No program in sight. -/
import Derived.Test.YtgaodnflifkaiaaDoorF64SV
namespace Go.Fl
open Ieee
set_option linter.unusedVariables false

theorem val_wd (s : Bool) {r : Nat} (h : r < 2 ^ 63) : val (wd s r) = if s then -(mag r : Int) else (mag r : Int) := by
  unfold val; rw [neg_wd _ h, rung_wd _ h]
theorem add_half_nat {x y r G : Nat} (hx : rung x < infR) (hy : rung y < infR) (hr : rung r < infR) (h : floatBits .add .f64 x y = some r) (hb : (val x + val y).natAbs < 2 ^ (53 + G)) :
    2 * val r ≤ 2 * (val x + val y) + 2 ^ G ∧ 2 * (val x + val y) ≤ 2 * val r + 2 ^ G := by
  obtain ⟨T, c, hT, e⟩ := add_fin hx hy
  obtain rfl := pick e h
  have hl := rnd_lt T.natAbs (-1074 + (c : Int))
  have hM : T.natAbs * 2 ^ c = (val x + val y).natAbs := by rw [← natAbs_mul_pow, hT]
  rw [rung_wd _ hl] at hr
  by_cases h0 : T.natAbs = 0
  · have hv : val x + val y = 0 := by rw [h0, Nat.zero_mul] at hM; omega
    rw [val_wd _ hl, h0, rnd_zero, mag_zero, hv]
    have : (0 : Int) ≤ 2 ^ G := Int.le_of_lt (Int.pow_pos (by decide))
    split <;> omega
  · obtain ⟨k, q, hs⟩ := rnd_is T.natAbs (-1074 + (c : Int)) h0
    have hup := hs.up c 0 (by omega)
    have hdn := hs.dn c 0 (by omega)
    have hge := hs.ge c 0 (by omega)
    simp only [Nat.add_zero] at hup hdn hge
    rw [hM] at hup hdn hge
    have hk : k ≤ G := by
      rcases Nat.eq_zero_or_pos k with hz | hz
      · omega
      · have g := hge (by omega)
        refine Nat.le_of_not_lt fun hlt => ?_
        have h3 : 2 ^ (53 + G) ≤ 2 ^ (52 + k) := Nat.pow_le_pow_right (by decide) (by omega)
        exact absurd (Nat.le_trans h3 g) (Nat.not_le_of_lt hb)
    have hkG : 2 ^ k ≤ 2 ^ G := Nat.pow_le_pow_right (by decide) hk
    have hm : mag (rnd T.natAbs (-1074 + (c : Int))) = q * 2 ^ k := by
      rw [hs.eq] at hr ⊢
      have hmm := hs.mag
      generalize k * 2 ^ 52 + q = A at hr hmm ⊢
      rw [Nat.min_eq_left (Nat.le_of_not_le fun hle => by rw [Nat.min_eq_right hle] at hr; exact Nat.lt_irrefl _ hr)]
      exact hmm
    rw [val_wd _ hl, hm]
    have hcast : ((2 : Int) ^ G) = ((2 ^ G : Nat) : Int) := cast_pow G
    rw [hcast]
    have hnz : val x + val y ≠ 0 := by
      intro hv
      rw [hv] at hM
      have h2 : T.natAbs * 2 ^ c = 0 := hM
      have h3 : 0 < T.natAbs * 2 ^ c := Nat.mul_pos (by omega) (Nat.pow_pos (by decide))
      omega
    rw [if_neg hnz]
    generalize 2 ^ G = P at *
    generalize q * 2 ^ k = Q at *
    generalize 2 ^ k = K at *
    by_cases hs0 : val x + val y < 0
    · rw [decide_eq_true hs0]
      simp only [if_true]
      omega
    · rw [decide_eq_false hs0]
      simp only [Bool.false_eq_true, if_false]
      omega

theorem addH {x y G : Nat} {s : Rat} (hx : Fin' x) (hy : Fin' y) (hG : G ≤ 2044) (hs : stp G = s) (b1 : rv x + rv y < 9007199254740992 * s) (b2 : -(9007199254740992 * s) < rv x + rv y) :
    ∃ r, floatBits .add .f64 x y = some r ∧ Fin' r ∧ 2 * rv r ≤ 2 * (rv x + rv y) + s ∧ 2 * (rv x + rv y) ≤ 2 * rv r + s := by
  obtain ⟨r, h, fr, -, -⟩ := addE hx hy hG hs b1 (Rat.le_of_lt b2)
  have hu := ur_pos
  have e := stp_ur G
  have c1 : (((2 : Int) ^ 53 : Int) : Rat) = 9007199254740992 := rfl
  have k1 : val x + val y < 2 ^ 53 * 2 ^ G := by
    apply Rat.intCast_lt_intCast.1
    rw [Rat.intCast_add, rv_ur x, rv_ur y, Rat.intCast_mul, cast_pow2 G, c1, ← e, hs]
    have t := Rat.mul_lt_mul_of_pos_right b1 hu
    grind
  have k2 : -(2 ^ 53 * 2 ^ G) < val x + val y := by
    apply Rat.intCast_lt_intCast.1
    rw [Rat.intCast_add, rv_ur x, rv_ur y, Rat.intCast_neg, Rat.intCast_mul, cast_pow2 G, c1, ← e, hs]
    have t := Rat.mul_lt_mul_of_pos_right b2 hu
    grind
  have hb : (val x + val y).natAbs < 2 ^ (53 + G) := by
    have hc : ((2 : Int) ^ 53 * 2 ^ G) = ((2 ^ (53 + G) : Nat) : Int) := by
      rw [cast_pow 53, cast_pow G, Nat.pow_add, Int.natCast_mul]
    rw [hc] at k1 k2
    generalize 2 ^ (53 + G) = P at *
    omega
  obtain ⟨n1, n2⟩ := add_half_nat hx.fin hy.fin fr.fin h hb
  have m1 := Rat.intCast_le_intCast.2 n1
  have m2 := Rat.intCast_le_intCast.2 n2
  rw [Rat.intCast_add, Rat.intCast_mul, Rat.intCast_mul, Rat.intCast_add, cast_pow2 G, rv_ur x, rv_ur y, rv_ur r, ← e, hs] at m1 m2
  have c2 : ((2 : Int) : Rat) = 2 := rfl
  rw [c2] at m1 m2
  refine ⟨r, h, fr, rle_cancel hu ?_, rle_cancel hu ?_⟩ <;> grind

/-- A quotient by a known positive number. -/
theorem quoE {x y G : Nat} {s D c : Rat} (hx : Fin' x) (hy : Fin' y) (hD : rv y = D) (hp : 0 < D) (hc : D * c = 1) (hG : G ≤ 2044) (hs : stp G = s) (b1 : rv x * c < 9007199254740992 * s) (b2 : -(9007199254740992 * s) ≤ rv x * c) :
    ∃ r, floatBits .quo .f64 x y = some r ∧ Fin' r ∧ rv r ≤ rv x * c + s ∧ rv x * c - s ≤ rv r := by
  have hu := ur_pos
  have hyr : 0 < (val y : Rat) := by rw [rv_ur y, hD]; exact Rat.mul_pos hp hu
  have hy0 : 0 < val y := by
    apply Rat.intCast_lt_intCast.1
    exact hyr
  obtain ⟨r, h, hm⟩ := quo_mono hx.fin hy.fin hy0 ub_eq
  have e := stp_ur G
  have e1 : (((2 : Int) ^ ub : Int) : Rat) = ur := cast_pow2 ub
  have c1 : (((2 : Int) ^ 53 : Int) : Rat) = 9007199254740992 := rfl
  have hDu : 0 < D * (ur * ur) := Rat.mul_pos hp (Rat.mul_pos hu hu)
  have hxc : rv x * c * D = rv x := by grind
  have hx2 : rv x * c * (D * (ur * ur)) = rv x * (ur * ur) := by
    have : rv x * c * (D * (ur * ur)) = (rv x * c * D) * (ur * ur) := by grind
    rw [this, hxc]
  have k1 : val x * 2 ^ ub < 2 ^ 53 * (2 ^ G * val y) := by
    apply Rat.intCast_lt_intCast.1
    rw [Rat.intCast_mul, Rat.intCast_mul, Rat.intCast_mul, cast_pow2 G, e1, c1, rv_ur x, rv_ur y, hD, ← e, hs]
    have t := Rat.mul_lt_mul_of_pos_right b1 hDu
    rw [hx2] at t
    clear e e1 c1 hs hG
    grind
  have k2 : -(2 ^ 53 * (2 ^ G * val y)) ≤ val x * 2 ^ ub := by
    apply Rat.intCast_le_intCast.1
    rw [Rat.intCast_neg, Rat.intCast_mul, Rat.intCast_mul, Rat.intCast_mul, cast_pow2 G, e1, c1, rv_ur x, rv_ur y, hD, ← e, hs]
    have t := Rat.mul_le_mul_of_nonneg_right b2 (Rat.le_of_lt hDu)
    rw [hx2] at t
    clear e e1 c1 hs hG
    grind
  obtain ⟨n1, n2, n3⟩ := near_abs hm hy0 hG k1 k2
  obtain ⟨q1, q2⟩ := abs_rat hy0 n1 n2
  rw [Rat.intCast_mul, e1, rv_ur x, rv_ur y, rv_ur r, hD, ← e, hs] at q1 q2
  clear e e1 c1 hs n1 n2 k1 k2 hG
  refine ⟨r, h, ⟨hm.lt, n3⟩, rle_cancel hDu ?_, rle_cancel hDu ?_⟩
  · have : (rv x * c + s) * (D * (ur * ur)) = rv x * c * (D * (ur * ur)) + s * (D * (ur * ur)) := by grind
    rw [this, hx2]; grind
  · have : (rv x * c - s) * (D * (ur * ur)) = rv x * c * (D * (ur * ur)) - s * (D * (ur * ur)) := by grind
    rw [this, hx2]; grind

/-- A product of two bounded numbers. -/
theorem amul {a b A B : Rat} (a1 : a ≤ A) (a2 : -A ≤ a) (b1 : b ≤ B) (b2 : -B ≤ b) : a * b ≤ A * B ∧ -(A * B) ≤ a * b := by
  have hA : 0 ≤ A := by grind
  rcases Rat.le_total (a := 0) (b := b) with h | h
  · exact span_mul a1 a2 h b1 hA
  · obtain ⟨p, q⟩ := span_mul (z := -b) (Z := B) a1 a2 (by grind) (by grind) hA
    constructor <;> grind
end Go.Fl
