/- The sine's road gives a tiny number back. No program in sight. -/
import Derived.Test.YtgaodnflifkaiaaDoorF64TG
namespace Go.Fl
open Ieee
set_option linter.unusedVariables false

/-- A product lies under, or over, a word if the exact product does. -/
theorem mul_le' {x y r z : Nat} (hx : Fin' x) (hy : Fin' y) (hz : Fin' z) (h : floatBits .mul .f64 x y = some r) (hh : rv x * rv y ≤ rv z) : rv r ≤ rv z := by
  obtain ⟨r', h', hm⟩ := mul_mono hx.fin hy.fin ub_eq
  obtain rfl := pick h' h
  have hu := ur_pos
  refine rv_le_of_key (hm.le z hz.fin ?_)
  apply int_of_rat
  have e1 : (((2 : Int) ^ ub : Int) : Rat) = ur := cast_pow2 ub
  rw [Rat.intCast_mul, Rat.intCast_mul, e1, rv_ur x, rv_ur y, rv_ur z]
  have t := Rat.mul_le_mul_of_nonneg_right hh (Rat.le_of_lt (Rat.mul_pos hu hu))
  grind
theorem mul_ge' {x y r z : Nat} (hx : Fin' x) (hy : Fin' y) (hz : Fin' z) (h : floatBits .mul .f64 x y = some r) (hh : rv z ≤ rv x * rv y) : rv z ≤ rv r := by
  obtain ⟨r', h', hm⟩ := mul_mono hx.fin hy.fin ub_eq
  obtain rfl := pick h' h
  have hu := ur_pos
  refine rv_le_of_key (hm.ge z hz.fin ?_)
  apply int_of_rat
  have e1 : (((2 : Int) ^ ub : Int) : Rat) = ur := cast_pow2 ub
  rw [Rat.intCast_mul, Rat.intCast_mul, e1, rv_ur x, rv_ur y, rv_ur z]
  have t := Rat.mul_le_mul_of_nonneg_right hh (Rat.le_of_lt (Rat.mul_pos hu hu))
  grind
/-- Some binades down. -/
theorem mag_scale (j y : Nat) (hy : 2 ^ 52 ≤ y) : mag (y + j * 2 ^ 52) = mag y * 2 ^ j := by
  obtain ⟨k, q, hk, h1, h2⟩ : ∃ k q, y = k * 2 ^ 52 + q ∧ 2 ^ 52 ≤ q ∧ q ≤ 2 ^ 53 := ⟨y / 2 ^ 52 - 1, 2 ^ 52 + y % 2 ^ 52, by omega, by omega, by omega⟩
  have e1 := mag_kq (k := k) (q := q) (fun _ => h1) h2
  have e2 := mag_kq (k := k + j) (q := q) (fun _ => h1) h2
  have e3 : y + j * 2 ^ 52 = (k + j) * 2 ^ 52 + q := by rw [hk, Nat.add_mul]; omega
  rw [e3, e2, hk, e1, Nat.pow_add, Nat.mul_assoc]
theorem rv_scale (j y : Nat) (hy : 2 ^ 52 ≤ y) (hx : y + j * 2 ^ 52 < infR) : rv (y + j * 2 ^ 52) = rv y * (2 : Rat) ^ j := by
  have hy' : y < infR := Nat.lt_of_le_of_lt (Nat.le_add_right _ _) hx
  unfold rv
  rw [val_self hx, val_self hy', mag_scale j y hy, Int.natCast_mul, Rat.intCast_mul, ← cast_pow, cast_pow2]
  rw [Rat.div_def, Rat.div_def, Rat.mul_assoc, Rat.mul_assoc, Rat.mul_comm ((2 : Rat) ^ j)]

theorem sin_tiny {x : Nat} (h0 : 0 < x) (h1 : x ≤ 4485585228861014016) : ∃ zz, floatBits .mul .f64 x x = some zz ∧ ∃ m0 a1 m1 a2 m2 a3 m3 a4 m4 p w q, SinH zz m0 a1 m1 a2 m2 a3 m3 a4 m4 p ∧ SinP x zz w p q x := by
  obtain ⟨e0, e1⟩ := eh_small
  have hx : x < infR := Nat.lt_of_le_of_lt h1 (by decide)
  have fx := fin_pos hx
  have hp := word_pos h0 hx
  have x0 := rv_nonneg (Int.le_of_lt hp)
  have hw : rv 4485585228861014016 = 1 / 134217728 := by
    rw [rv_const (e := 995) (c := 79) (by decide) (by decide) (by decide)]; decide +kernel
  have x1 : rv x ≤ 1 / 134217728 := by
    rw [← hw]
    refine rv_le_of_key ?_
    rw [key_self hx, key_self (by decide)]; omega
  have fz : Fin' 4363988038922010624 := fin_pos (by decide)
  have hz : rv 4363988038922010624 = 1 / 18014398509481984 := by
    rw [rv_const (e := 968) (c := 106) (by decide) (by decide) (by decide)]; decide +kernel
  have sq0 : 0 ≤ rv x * rv x := Rat.mul_nonneg x0 x0
  have sq1 : rv x * rv x ≤ 1 / 18014398509481984 := by
    obtain ⟨a, b⟩ := amul (a := rv x) (A := 1 / 134217728) x1 (by grind) (b := rv x) (B := 1 / 134217728) x1 (by grind)
    grind
  obtain ⟨zz, hzz, fzz, -, -⟩ := mulE fx fx (G := 1021) (by decide) stp_eh (by rw [eh_big]; grind) (by rw [eh_big]; grind)
  have q0 := mul_over fx fx hzz sq0
  have q1 : rv zz ≤ 1 / 18014398509481984 := by rw [← hz]; exact mul_le' fx fx fz hzz (by rw [hz]; exact sq1)
  obtain ⟨m0, a1, m1, a2, m2, a3, m3, a4, m4, p, hh, fp, p1, p2⟩ := sin_hor fzz q0 (by grind)
  refine ⟨zz, hzz, m0, a1, m1, a2, m2, a3, m3, a4, m4, p, ?_⟩
  have w0 : 0 ≤ rv x * rv zz := Rat.mul_nonneg x0 q0
  obtain ⟨w1, w2⟩ := span_mul (a := rv x) (A := 1) (by grind) (by grind) q0 q1 (by decide)
  obtain ⟨w, hw, fw, u1, u2⟩ := mulE fx fzz (G := 1021) (by decide) stp_eh (by rw [eh_big]; grind) (by rw [eh_big]; grind)
  obtain ⟨t1, t2⟩ := amul (a := rv w) (A := 1) (by grind) (by grind) (b := rv p) (B := 1 / 5) p1 p2
  obtain ⟨q, hq, fq, -, -⟩ := mulE fw fp (G := 1021) (by decide) stp_eh (by rw [eh_big]; grind) (by rw [eh_big]; grind)
  refine ⟨w, q, hh, ⟨hw, hq, ?_⟩⟩
  by_cases hs : x < 483 * 2 ^ 52
  · -- so small that the square is nought
    have hzz0 : rung zz = 0 := by
      obtain ⟨b, hb⟩ : ∃ b, b = 1074 := ⟨_, rfl⟩
      refine mul_half_zero fx.fin fx.fin hb hzz ?_
      obtain ⟨k, hk⟩ : ∃ k, k = 482 := ⟨_, rfl⟩
      have hm : mag x ≤ 2 ^ (52 + k) := by
        have : mag x ≤ mag (k * 2 ^ 52 + 2 ^ 52) := mag_le (by omega)
        rw [mag_kq (fun _ => by decide) (by decide), ← Nat.pow_add] at this
        exact this
      rw [val_self hx]
      have e : ((mag x : Int) * (mag x : Int)).natAbs = mag x * mag x := by
        rw [← Int.natCast_mul, Int.natAbs_natCast]
      rw [e]
      have g : mag x * mag x ≤ 2 ^ (52 + k) * 2 ^ (52 + k) := Nat.mul_le_mul hm hm
      rw [← Nat.pow_add] at g
      have g2 : 2 * (mag x * mag x) ≤ 2 ^ (52 + k + (52 + k) + 1) := by
        rw [Nat.pow_succ']; exact Nat.mul_le_mul_left _ g
      exact Nat.lt_of_le_of_lt g2 (Nat.pow_lt_pow_right (by decide) (by omega))
    have hw0 := mul_zero_val fx.fin fzz.fin hw (.inr (val_of_zero hzz0))
    have hq0 := mul_zero_val fw.fin fp.fin hq (.inl (val_of_zero hw0))
    exact add_tiny h0 hx fq (by rw [val_of_zero hq0]; omega) (by rw [val_of_zero hq0]; omega)
  · obtain ⟨y, hy, hxy⟩ : ∃ y, 2 ^ 52 ≤ y ∧ x = y + 56 * 2 ^ 52 := ⟨x - 56 * 2 ^ 52, by omega, by omega⟩
    have hyi : y < infR := by omega
    have fy := fin_pos hyi
    have hsc := rv_scale 56 y hy (by rw [← hxy]; exact hx)
    have hsc2 := rv_scale 2 y hy (by omega)
    rw [← hxy] at hsc
    have c56 : (2 : Rat) ^ 56 = 72057594037927936 := by decide +kernel
    have c2 : (2 : Rat) ^ 2 = 4 := by decide +kernel
    rw [c56] at hsc
    rw [c2] at hsc2
    have fy2 : Fin' (y + 2 * 2 ^ 52) := fin_pos (by omega)
    have v1 : rv w ≤ rv (y + 2 * 2 ^ 52) := by
      refine mul_le' fx fzz fy2 hw ?_
      obtain ⟨a, -⟩ := span_mul (a := rv x) (A := rv x) Rat.le_refl (by grind) q0 q1 x0
      rw [hsc2]
      grind
    have v0 : 0 ≤ rv w := mul_over fx fzz hw w0
    obtain ⟨z1, z2⟩ := amul (a := rv w) (A := rv (y + 2 * 2 ^ 52)) v1 (by grind) (b := rv p) (B := 1 / 5) p1 p2
    rw [hsc2] at z1 z2
    have y0 : 0 ≤ rv y := by grind
    have r1 : rv q ≤ rv y := mul_le' fw fp fy hq (by grind)
    have r2 : rv (Op.negFloat .f64 y) ≤ rv q := mul_ge' fw fp (neg_fin fy) hq (by rw [rv_neg fy.lt]; grind)
    have s1 := val_le_of_rv r1
    have s2 := val_le_of_rv r2
    have hvn : val (Op.negFloat .f64 y) = -val y := by
      unfold val; rw [neg_neg fy.lt, rung_neg fy.lt]
      cases neg y <;> simp
    have hvx : val x = val y * 2 ^ 56 := by
      rw [val_self hx, val_self hyi, hxy, mag_scale 56 y hy, Int.natCast_mul, cast_pow]
    rw [hvn] at s2
    have hy0 : 0 ≤ val y := by rw [val_self hyi]; omega
    exact add_tiny h0 hx fq (by rw [hvx]; omega) (by rw [hvx]; omega)
end Go.Fl
