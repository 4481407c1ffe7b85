/- Rounding to the nearer; absolute errors of the operations on finite words of either sign. No program in sight. -/
import Derived.Test.YtgaodnflifkaiaaDoorF64ZZ
namespace Go.Fl
open Ieee
set_option linter.unusedVariables false

/-- What lies nearer to rung r than to the next is rounded to r at most. -/
theorem rnd_half {m r a b : Nat} {p : Int} (hp : (a : Int) - b = p + 1074) (h : 2 * (m * 2 ^ a) < (mag r + mag (r + 1)) * 2 ^ b) : rnd m p ≤ r := by
  have hm1 := mag_succ r
  by_cases hm : m = 0
  · subst hm; rw [rnd_zero]; exact Nat.zero_le _
  · have h1 : rnd m p ≤ r + 1 := by
      refine rnd_le' hp ?_
      have : (mag r + mag (r + 1)) * 2 ^ b ≤ (mag (r + 1) + mag (r + 1)) * 2 ^ b := Nat.mul_le_mul_right _ (by omega)
      rw [← Nat.two_mul, Nat.mul_assoc] at this
      omega
    rcases Nat.lt_or_eq_of_le h1 with h2 | h2
    · omega
    · exfalso
      obtain ⟨k, q, hs⟩ := rnd_is m p hm
      rw [hs.eq] at h2
      have hle : r + 1 ≤ k * 2 ^ 52 + q := by rw [← h2]; exact Nat.min_le_left _ _
      have hM := hs.mag
      have hd := hs.dn a b hp
      have hge := hs.ge a b hp
      have l1 : mag (r + 1) ≤ q * 2 ^ k := by rw [← hM]; exact mag_le hle
      -- the rung below the digits
      have hq0 : 0 < q := by
        rcases Nat.eq_zero_or_pos q with h0 | h0
        · rw [h0, Nat.zero_mul] at l1; omega
        · exact h0
      by_cases hc : k ≠ 0 ∧ q = 2 ^ 52
      · have g1 := hge hc.1
        have e1 : 2 ^ (52 + k + b) = q * 2 ^ k * 2 ^ b := by rw [hc.2, ← Nat.pow_add, ← Nat.pow_add]
        have g2 : mag (r + 1) * 2 ^ b ≤ q * 2 ^ k * 2 ^ b := Nat.mul_le_mul_right _ l1
        have g3 : (mag r + mag (r + 1)) * 2 ^ b ≤ (mag (r + 1) + mag (r + 1)) * 2 ^ b := Nat.mul_le_mul_right _ (by omega)
        rw [← Nat.two_mul, Nat.mul_assoc] at g3
        omega
      · have l2 : mag r ≤ (q - 1) * 2 ^ k := by
          have hr : r ≤ k * 2 ^ 52 + (q - 1) := by omega
          have := mag_le hr
          rw [mag_kq (fun hk => by have := hs.lo hk; have : q ≠ 2 ^ 52 := fun e => hc ⟨hk, e⟩; omega) (by have := hs.hi; omega)] at this
          exact this
        have g1 : (mag r + mag (r + 1)) * 2 ^ b ≤ ((q - 1) * 2 ^ k + q * 2 ^ k) * 2 ^ b := Nat.mul_le_mul_right _ (Nat.add_le_add l2 l1)
        have e1 : ((q - 1) * 2 ^ k + q * 2 ^ k) * 2 ^ b = (q - 1) * 2 ^ (k + b) + q * 2 ^ (k + b) := by
          rw [Nat.add_mul, Nat.mul_assoc, Nat.mul_assoc, ← Nat.pow_add]
        rw [e1, Nat.sub_mul, Nat.one_mul] at g1
        have g4 : 2 ^ (k + b) ≤ q * 2 ^ (k + b) := Nat.le_mul_of_pos_left _ hq0
        omega
/-- A sum that is nearer to a positive word than to the next lies at it or under it. -/
theorem add_half {x y r z : Nat} (hx : rung x < infR) (hy : rung y < infR) (hz : z < infR) (h : floatBits .add .f64 x y = some r) (hh : 2 * (val x + val y) < (mag z : Int) + (mag (z + 1) : Int)) : key r ≤ (z : Int) := by
  obtain ⟨T, c, hT, e⟩ := add_fin hx hy
  obtain rfl := pick e h
  have hl := rnd_lt T.natAbs (-1074 + (c : Int))
  obtain ⟨s, hs⟩ : ∃ s : Bool, s = (if val x + val y = 0 then neg x && neg y else decide (val x + val y < 0)) := ⟨_, rfl⟩
  have hpos : s = false → 0 ≤ val x + val y := by
    intro h0
    by_cases hz0 : val x + val y = 0
    · omega
    · rw [if_neg hz0, h0] at hs
      have := of_decide_eq_false hs.symm
      omega
  rw [← hs, key_wd _ hl]
  cases s with
  | true => simp only [if_true]; omega
  | false =>
    simp only [Bool.false_eq_true, if_false]
    have hp := hpos rfl
    have : rnd T.natAbs (-1074 + (c : Int)) ≤ z := by
      refine rnd_half (a := c) (b := 0) (by omega) ?_
      rw [← natAbs_mul_pow, hT, Nat.pow_zero, Nat.mul_one]
      omega
    omega

/-! ### Absolute errors -/
/-- A finite word. -/
structure Fin' (x : Nat) : Prop where
  lt : x < 2 ^ 64
  fin : rung x < infR
theorem In.fin' {x A B : Nat} (h : In x A B) : Fin' x := ⟨by have := h.fin; unfold infR at this; omega, rung_fin h.fin⟩
theorem rv_neg {x : Nat} (hx : x < 2 ^ 64) : rv (Op.negFloat .f64 x) = -rv x := by
  unfold rv
  have : val (Op.negFloat .f64 x) = -val x := by
    unfold val; rw [neg_neg hx, rung_neg hx]
    cases neg x <;> simp
  rw [this, Rat.intCast_neg]; grind
/-- The step '2 ^ (G - 1074)' as a rational number. -/
def stp (G : Nat) : Rat := (2 : Rat) ^ G / ur
theorem stp_pos (G : Nat) : 0 < stp G := by
  unfold stp; rw [Rat.div_def]
  exact Rat.mul_pos (Rat.pow_pos (by decide)) (Rat.inv_pos.2 ur_pos)
theorem stp_ur (G : Nat) : stp G * ur = (2 : Rat) ^ G := dmul _ ur_pos
theorem abs_rat {V K : Int} {r G : Nat} (hK : 0 < K) (h1 : val r * K ≤ V + 2 ^ G * K) (h2 : V - 2 ^ G * K ≤ val r * K) : (val r : Rat) * K ≤ V + (2 : Rat) ^ G * K ∧ V - (2 : Rat) ^ G * K ≤ (val r : Rat) * K := by
  have m1 := Rat.intCast_le_intCast.2 h1
  have m2 := Rat.intCast_le_intCast.2 h2
  rw [Rat.intCast_mul, Rat.intCast_add, Rat.intCast_mul, cast_pow2] at m1
  rw [Rat.intCast_sub, Rat.intCast_mul, Rat.intCast_mul, cast_pow2] at m2
  exact ⟨m1, m2⟩
theorem add_abs {x y r G : Nat} (hx : Fin' x) (hy : Fin' y) (hG : G ≤ 2044) (b1 : rv x + rv y < 9007199254740992 * stp G) (b2 : -(9007199254740992 * stp G) ≤ rv x + rv y) (h : floatBits .add .f64 x y = some r) :
    Fin' r ∧ rv r ≤ rv x + rv y + stp G ∧ rv x + rv y - stp G ≤ rv r := by
  obtain ⟨r', h', hm⟩ := add_mono hx.fin hy.fin
  obtain rfl := pick h' h
  have hu := ur_pos
  have k1 : val x + val y < 2 ^ 53 * (2 ^ G * 1) := by
    apply Rat.intCast_lt_intCast.1
    rw [Rat.intCast_add, rv_ur x, rv_ur y, Rat.intCast_mul, Rat.intCast_mul, cast_pow2 G]
    have t := Rat.mul_lt_mul_of_pos_right b1 hu
    have e := stp_ur G
    have c1 : (((2 : Int) ^ 53 : Int) : Rat) = 9007199254740992 := rfl
    have c2 : ((1 : Int) : Rat) = 1 := rfl
    rw [c1, c2, ← e]; grind
  have k2 : -(2 ^ 53 * (2 ^ G * 1)) ≤ val x + val y := by
    apply int_of_rat
    rw [Rat.intCast_add, rv_ur x, rv_ur y, Rat.intCast_neg, Rat.intCast_mul, Rat.intCast_mul, cast_pow2 G]
    have t := Rat.mul_le_mul_of_nonneg_right b2 (Rat.le_of_lt hu)
    have e := stp_ur G
    have c1 : (((2 : Int) ^ 53 : Int) : Rat) = 9007199254740992 := rfl
    have c2 : ((1 : Int) : Rat) = 1 := rfl
    rw [c1, c2, ← e]; grind
  obtain ⟨n1, n2, n3⟩ := near_abs hm (by decide) hG k1 k2
  obtain ⟨q1, q2⟩ := abs_rat (by decide) n1 n2
  have c2 : ((1 : Int) : Rat) = 1 := rfl
  rw [Rat.intCast_add, rv_ur x, rv_ur y, rv_ur r, c2, ← stp_ur G] at q1 q2
  refine ⟨⟨hm.lt, n3⟩, ?_, ?_⟩
  · refine rle_cancel hu ?_
    grind
  · refine rle_cancel hu ?_
    grind
theorem neg_fin {x : Nat} (h : Fin' x) : Fin' (Op.negFloat .f64 x) := ⟨negFloat_lt h.lt, by rw [rung_neg h.lt]; exact h.fin⟩
theorem sub_abs {x y r G : Nat} (hx : Fin' x) (hy : Fin' y) (hG : G ≤ 2044) (b1 : rv x - rv y < 9007199254740992 * stp G) (b2 : -(9007199254740992 * stp G) ≤ rv x - rv y) (h : floatBits .sub .f64 x y = some r) :
    Fin' r ∧ rv r ≤ rv x - rv y + stp G ∧ rv x - rv y - stp G ≤ rv r := by
  rw [sub_is_add hy.lt] at h
  have e : rv x + rv (Op.negFloat .f64 y) = rv x - rv y := by rw [rv_neg hy.lt]; grind
  have := add_abs hx (neg_fin hy) hG (by rw [e]; exact b1) (by rw [e]; exact b2) h
  rw [e] at this
  exact this
theorem mul_abs {x y r G : Nat} (hx : Fin' x) (hy : Fin' y) (hG : G ≤ 2044) (b1 : rv x * rv y < 9007199254740992 * stp G) (b2 : -(9007199254740992 * stp G) ≤ rv x * rv y) (h : floatBits .mul .f64 x y = some r) :
    Fin' r ∧ rv r ≤ rv x * rv y + stp G ∧ rv x * rv y - stp G ≤ rv r := by
  obtain ⟨r', h', hm⟩ := mul_mono hx.fin hy.fin ub_eq
  obtain rfl := pick h' h
  have hu := ur_pos
  have hu2 := Rat.mul_pos hu hu
  have hK : (0 : Int) < 2 ^ ub := Int.pow_pos (by decide)
  have e1 : (((2 : Int) ^ ub : Int) : Rat) = ur := cast_pow2 ub
  have k1 : val x * val y < 2 ^ 53 * (2 ^ G * 2 ^ ub) := by
    apply Rat.intCast_lt_intCast.1
    rw [Rat.intCast_mul, rv_ur x, rv_ur y, Rat.intCast_mul, Rat.intCast_mul, cast_pow2 G, e1]
    have t := Rat.mul_lt_mul_of_pos_right b1 hu2
    have e := stp_ur G
    have c1 : (((2 : Int) ^ 53 : Int) : Rat) = 9007199254740992 := rfl
    rw [c1, ← e]; grind
  have k2 : -(2 ^ 53 * (2 ^ G * 2 ^ ub)) ≤ val x * val y := by
    apply int_of_rat
    rw [Rat.intCast_mul, rv_ur x, rv_ur y, Rat.intCast_neg, Rat.intCast_mul, Rat.intCast_mul, cast_pow2 G, e1]
    have t := Rat.mul_le_mul_of_nonneg_right b2 (Rat.le_of_lt hu2)
    have e := stp_ur G
    have c1 : (((2 : Int) ^ 53 : Int) : Rat) = 9007199254740992 := rfl
    rw [c1, ← e]; grind
  obtain ⟨n1, n2, n3⟩ := near_abs hm hK hG k1 k2
  obtain ⟨q1, q2⟩ := abs_rat hK n1 n2
  rw [Rat.intCast_mul, rv_ur x, rv_ur y, rv_ur r, e1, ← stp_ur G] at q1 q2
  refine ⟨⟨hm.lt, n3⟩, ?_, ?_⟩
  · refine rle_cancel hu2 ?_
    grind
  · refine rle_cancel hu2 ?_
    grind
end Go.Fl
