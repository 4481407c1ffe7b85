/- A sum with a tiny part gives the greater part back; the sine's road for tiny numbers. No program in sight. -/
import Derived.Test.YtgaodnflifkaiaaDoorF64TE
namespace Go.Fl
open Ieee
set_option linter.unusedVariables false

/-- A product of less than half the least word is nought. -/
theorem mul_half_zero {x y r b : Nat} (hx : rung x < infR) (hy : rung y < infR) (hb : b = 1074) (h : floatBits .mul .f64 x y = some r) (hs : 2 * (val x * val y).natAbs < 2 ^ b) : rung r = 0 := by
  obtain ⟨m, k, ex, hm⟩ := read_val hx
  obtain ⟨n, l, ey, hn⟩ := read_val hy
  have hV : val x * val y = signed (neg x ^^ neg y) (m * n) (k + l) := by rw [← hm, ← hn, signed_prod]
  have hf : floatBits .mul .f64 x y = some (wd (neg x ^^ neg y) (rnd (m * n) ((-1074 + (k : Int)) + (-1074 + (l : Int))))) := by
    rw [fb_mul, ex, ey]
    simp only [Datum.product, Option.map_some, write_number]
  obtain rfl := pick hf h
  rw [rung_wd _ (rnd_lt _ _)]
  rw [hV, signed_nat] at hs
  have : rnd (m * n) ((-1074 + (k : Int)) + (-1074 + (l : Int))) ≤ 0 := by
    refine rnd_half (a := k + l) (b := b) (by omega) ?_
    have e0 : mag 0 = 0 := mag_zero
    have e1 : mag (0 + 1) = 1 := by decide
    rw [e0, e1, Nat.zero_add, Nat.one_mul]
    exact hs
  omega
theorem val_of_zero {x : Nat} (h : rung x = 0) : val x = 0 := by
  unfold val; rw [h, mag_zero]; split <;> rfl
theorem mul_zero_val {x y r : Nat} (hx : rung x < infR) (hy : rung y < infR) (h : floatBits .mul .f64 x y = some r) (h0 : val x = 0 ∨ val y = 0) : rung r = 0 := by
  obtain ⟨b, hb⟩ : ∃ b, b = 1074 := ⟨_, rfl⟩
  refine mul_half_zero hx hy hb h ?_
  have : val x * val y = 0 := by rcases h0 with h | h <;> rw [h] <;> simp
  rw [this]
  exact Nat.pow_pos (by decide)

/-- What lies nearer to the next rung than to rung r is rounded above r. -/
theorem rnd_half_lo {m r a b : Nat} {p : Int} (hr : r < infR) (hp : (a : Int) - b = p + 1074) (h : (mag r + mag (r + 1)) * 2 ^ b < 2 * (m * 2 ^ a)) : r < rnd m p := by
  by_cases hm : m = 0
  · subst hm; rw [Nat.zero_mul, Nat.mul_zero] at h; omega
  · refine Nat.lt_of_not_le fun hle => ?_
    obtain ⟨k, q, hs⟩ := rnd_is m p hm
    have hup := hs.up a b hp
    have hmg := hs.mag
    have hlo := hs.lo
    have hhi := hs.hi
    rw [hs.eq] at hle
    obtain ⟨A, hA⟩ : ∃ A, A = k * 2 ^ 52 + q := ⟨_, rfl⟩
    rw [← hA] at hle hmg
    have hle' : A ≤ r := by
      rcases Nat.le_total A infR with h1 | h1
      · rw [Nat.min_eq_left h1] at hle; exact hle
      · rw [Nat.min_eq_right h1] at hle; exact absurd (Nat.lt_of_lt_of_le hr hle) (Nat.lt_irrefl _)
    have g1 : q * 2 ^ k ≤ mag r := by rw [← hmg]; exact mag_le hle'
    have g2 : (q + 1) * 2 ^ k ≤ mag (r + 1) := by
      refine Nat.le_trans ?_ (mag_le (Nat.succ_le_succ hle'))
      by_cases hq : q = 2 ^ 53
      · have e : A.succ = (k + 1) * 2 ^ 52 + (2 ^ 52 + 1) := by rw [hA, hq]; omega
        rw [e, mag_kq (fun _ => by decide) (by decide), hq]
        have e2 : (2 ^ 52 + 1) * 2 ^ (k + 1) = (2 ^ 53 + 2) * 2 ^ k := by rw [Nat.pow_succ]; omega
        rw [e2]
        exact Nat.mul_le_mul_right _ (by decide)
      · have e : A.succ = k * 2 ^ 52 + (q + 1) := by rw [hA]; rfl
        rw [e, mag_kq (fun hk => Nat.le_succ_of_le (hlo hk)) (by omega)]
        exact Nat.le_refl _
    have g3 : (q * 2 ^ k + (q + 1) * 2 ^ k) * 2 ^ b ≤ (mag r + mag (r + 1)) * 2 ^ b := Nat.mul_le_mul_right _ (Nat.add_le_add g1 g2)
    have e1 : (q * 2 ^ k + (q + 1) * 2 ^ k) * 2 ^ b = 2 * (q * 2 ^ (k + b)) + 2 ^ (k + b) := by
      rw [Nat.add_mul, Nat.mul_assoc, Nat.mul_assoc, ← Nat.pow_add, Nat.add_mul, Nat.one_mul]; omega
    rw [e1] at g3
    exact absurd (Nat.lt_of_le_of_lt g3 (Nat.lt_of_lt_of_le h hup)) (Nat.lt_irrefl _)
/-- The gap under a rung is no less than a part of it. -/
theorem mag_gap (n : Nat) : mag (n + 1) + 2 ^ 53 * mag n ≤ 2 ^ 53 * mag (n + 1) := by
  by_cases h : n < 2 ^ 52
  · have e1 : mag n = n := by unfold mag; rw [if_pos h]
    have e2 := mag_kq (k := 0) (q := n + 1) (fun h => absurd rfl h) (by omega)
    rw [Nat.zero_mul, Nat.zero_add, Nat.pow_zero, Nat.mul_one] at e2
    rw [e1, e2]; omega
  · obtain ⟨k, q, hk, h1, h2⟩ : ∃ k q, n = k * 2 ^ 52 + q ∧ 2 ^ 52 ≤ q ∧ q + 1 ≤ 2 ^ 53 := ⟨n / 2 ^ 52 - 1, 2 ^ 52 + n % 2 ^ 52, by omega, by omega, by omega⟩
    have e1 := mag_kq (k := k) (q := q) (fun _ => h1) (by omega)
    have e2 := mag_kq (k := k) (q := q + 1) (fun _ => by omega) h2
    rw [← Nat.add_assoc] at e2
    rw [hk, e1, e2]
    have g : (q + 1) * 2 ^ k ≤ 2 ^ 53 * 2 ^ k := Nat.mul_le_mul_right _ h2
    have e3 : (q + 1) * 2 ^ k = q * 2 ^ k + 2 ^ k := by rw [Nat.add_mul, Nat.one_mul]
    rw [e3] at g ⊢
    generalize q * 2 ^ k = Q at *
    generalize 2 ^ k = K at *
    omega
theorem add_tiny {x q : Nat} (h0 : 0 < x) (hx : x < infR) (hq : Fin' q) (b1 : 2 ^ 55 * val q ≤ val x) (b2 : -(val x) ≤ 2 ^ 55 * val q) : floatBits .add .f64 x q = some x := by
  have fx := fin_pos hx
  have hv := val_self hx
  obtain ⟨n, rfl⟩ : ∃ n, x = n + 1 := ⟨x - 1, by omega⟩
  have hg := mag_gap n
  have hg2 := mag_gap (n + 1)
  have hm := mag_le (show n + 1 ≤ n + 1 + 1 by omega)
  have hp : 0 < mag (n + 1) := mag_pos (by omega)
  obtain ⟨r, h, hmo⟩ := add_mono fx.fin hq.fin
  have hup : key r ≤ ((n + 1 : Nat) : Int) := add_half fx.fin hq.fin hx h (by omega)
  obtain ⟨T, c, hT, e⟩ := add_fin fx.fin hq.fin
  obtain rfl := pick e h
  have hl := rnd_lt T.natAbs (-1074 + (c : Int))
  have hs : ¬ val (n + 1) + val q = 0 := by omega
  have hs2 : ¬ val (n + 1) + val q < 0 := by omega
  rw [if_neg hs, decide_eq_false hs2] at hup h
  rw [key_wd _ hl] at hup
  simp only [Bool.false_eq_true, if_false] at hup
  have hlo : n < rnd T.natAbs (-1074 + (c : Int)) := by
    refine rnd_half_lo (a := c) (b := 0) (by omega) (by omega) ?_
    rw [← natAbs_mul_pow, hT, Nat.pow_zero, Nat.mul_one]
    omega
  have : rnd T.natAbs (-1074 + (c : Int)) = n + 1 := by omega
  rw [h, this]
  rfl
end Go.Fl
