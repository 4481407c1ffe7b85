/- The cube root of math/cbrt.go at a positive finite word: each operation's word, and that the last is positive and finite. No program in sight. -/
import Derived.Test.YtgaodnflifkaiaaDoorF64Q
namespace Go.Fl
open Ieee
set_option linter.unusedVariables false

def cC : Nat := 4603064841997850097
def cE : Nat := 4609048195788499471
def cD : Nat := 13827900089180538932
def cF : Nat := 4609916747145206638
def cG : Nat := 4600105333671292343
/-- The operations up to the rough root's betterment. -/
structure CbA (x T0 a1 r b1 s c1 c2 c3 c4 c5 t1 : Nat) : Prop where
  e1 : floatBits .mul .f64 T0 T0 = some a1
  e2 : floatBits .quo .f64 a1 x = some r
  e3 : floatBits .mul .f64 r T0 = some b1
  e4 : floatBits .add .f64 cC b1 = some s
  e5 : floatBits .add .f64 s cE = some c1
  e6 : floatBits .quo .f64 cD s = some c2
  e7 : floatBits .add .f64 c1 c2 = some c3
  e8 : floatBits .quo .f64 cF c3 = some c4
  e9 : floatBits .add .f64 cG c4 = some c5
  e10 : floatBits .mul .f64 T0 c5 = some t1
/-- The operations behind it. -/
structure CbB (x t2 s2 r2 w d e f g t : Nat) : Prop where
  e1 : floatBits .mul .f64 t2 t2 = some s2
  e2 : floatBits .quo .f64 x s2 = some r2
  e3 : floatBits .add .f64 t2 t2 = some w
  e4 : floatBits .sub .f64 r2 t2 = some d
  e5 : floatBits .add .f64 w r2 = some e
  e6 : floatBits .quo .f64 d e = some f
  e7 : floatBits .mul .f64 t2 f = some g
  e8 : floatBits .add .f64 t2 g = some t
/-- The rough root. -/
def Rough (x T0 : Nat) : Prop := (2 ^ 52 ≤ x ∧ T0 = x / 3 + 3071306043645493248) ∨ (x < 2 ^ 52 ∧ ∃ m, floatBits .mul .f64 4850376798678024192 x = some m ∧ m < infR ∧ T0 = m / 3 + 2990241250352824320)

theorem fin_of_between {r a b : Nat} (hr : r < 2 ^ 64) (hn : nan r = false) (ha : a < infR) (hb : b < infR) (h1 : -(a : Int) ≤ key r) (h2 : key r ≤ (b : Int)) : rung r < infR := by
  unfold key at h1 h2
  cases hs : neg r <;> rw [hs] at h1 h2 <;> simp only [Bool.false_eq_true, if_false, if_true] at h1 h2 <;> omega

theorem rough {x : Nat} (h0 : 0 < x) (hx : x < infR) : ∃ T0 P Q, Rough x T0 ∧ In x P (P + 3) ∧ In T0 Q (Q + 2) ∧ 3 * Q = P + 2145 ∧ 715 ≤ Q ∧ Q ≤ 1414 := by
  by_cases h52 : 2 ^ 52 ≤ x
  · obtain ⟨e, he⟩ : ∃ e, x / 2 ^ 52 = e + 1 := ⟨x / 2 ^ 52 - 1, by omega⟩
    have hi := in_normal hx he
    have he2 : e ≤ 2045 := by unfold infR at hx; omega
    obtain ⟨j, i, hj, hi3⟩ : ∃ j i, e + 1 = 3 * j + i ∧ i < 3 := ⟨(e + 1) / 3, (e + 1) % 3, by omega, by omega⟩
    have hT : x / 3 + 3071306043645493248 < infR := by unfold infR at *; omega
    obtain ⟨k, hk, hk2⟩ : ∃ k, (x / 3 + 3071306043645493248) / 2 ^ 52 = k + 1 ∧ (k + 1 = j + 681 ∨ k + 1 = j + 682) := ⟨(x / 3 + 3071306043645493248) / 2 ^ 52 - 1, by omega, by omega⟩
    have hi2 := in_normal hT hk
    refine ⟨_, 51 + 3 * j, 732 + j, .inl ⟨h52, rfl⟩, hi.wide (by omega) (by omega), hi2.wide (by omega) (by omega), by omega, by omega, by omega⟩
  · have hmx : mag x = x := by unfold mag; rw [if_pos (by omega)]
    -- 2 ^ 54 times x is exact
    obtain ⟨u, hu⟩ : ∃ u, u = 1074 := ⟨_, rfl⟩
    have hx0 : In x 0 52 := ⟨hx, by rw [hmx, Nat.pow_zero]; exact h0, by rw [hmx]; omega⟩
    obtain ⟨v, hv⟩ : ∃ v, v = 1076 := ⟨_, rfl⟩
    have e52 : 52 + v = 54 + u := by omega
    have hc : In 4850376798678024192 (52 + v) (52 + v) := by
      have hf : (4850376798678024192 : Nat) < infR := by decide
      have := mag_normal (x := 4850376798678024192) (e := v) (by rw [hv])
      have e2 : mag 4850376798678024192 = 2 ^ (52 + v) := by
        rw [this, show 4850376798678024192 % 2 ^ 52 = 0 by decide, Nat.add_zero, ← Nat.pow_add]
      exact ⟨hf, by rw [e2]; exact Nat.le_refl _, by rw [e2]; exact Nat.le_refl _⟩
    obtain ⟨m, hm, hmm⟩ := mul_mono (rung_fin hc.fin) (rung_fin hx) hu
    obtain ⟨z, hz, ez⟩ := exists_rung x 54 (by omega) (by omega)
    have hvz : val z * 2 ^ u = val 4850376798678024192 * val x := by
      rw [val_self hz, val_self hc.fin, val_self hx, ez, hmx, cast_pow]
      have h1 : mag 4850376798678024192 = 2 ^ 54 * 2 ^ u := by
        have h2 := Nat.le_antisymm hc.hi hc.lo
        rw [h2, e52, Nat.pow_add]
      rw [h1]
      have : x * 2 ^ 54 * 2 ^ u = 2 ^ 54 * 2 ^ u * x := by ac_rfl
      exact_mod_cast this
    have k1 := hmm.ge z (rung_fin hz) (by rw [hvz]; exact Int.le_refl _)
    have k2 := hmm.le z (rung_fin hz) (by rw [hvz]; exact Int.le_refl _)
    have hz0 : 0 < z := by
      apply Nat.pos_of_ne_zero; rintro rfl
      rw [mag_zero] at ez; omega
    rw [key_self hz] at k1
    obtain ⟨f1, f2⟩ := pos_of_key hmm.lt hmm.num (by omega) hz k2
    rw [key_self f1] at k1
    obtain rfl : m = z := by omega
    -- its exponent
    have hzn : ¬ m < 2 ^ 52 := by
      intro h
      have : mag m = m := by unfold mag; rw [if_pos h]
      omega
    obtain ⟨e, he⟩ : ∃ e, m / 2 ^ 52 = e + 1 := ⟨m / 2 ^ 52 - 1, by omega⟩
    have hi := in_normal f1 he
    have hlo := hi.lo
    have hhi := hi.hi
    rw [ez] at hlo hhi
    have he54 : 2 ≤ e := by
      apply Nat.le_of_not_lt; intro hlt
      have : 2 ^ (53 + e) ≤ 2 ^ 54 := Nat.pow_le_pow_right (by decide) (by omega)
      have h54 : m / 2 ^ 52 = e + 1 := he
      have hmn := mag_normal he
      rw [ez] at hmn
      have : (2 ^ 52 + m % 2 ^ 52) * 2 ^ e ≤ (2 ^ 53 - 1) * 2 ^ e := Nat.mul_le_mul_right _ (by omega)
      rcases (show e = 0 ∨ e = 1 by omega) with rfl | rfl <;> omega
    have he55 : e ≤ 54 := by
      apply Nat.le_of_not_lt; intro hlt
      have : 2 ^ 107 ≤ 2 ^ (52 + e) := Nat.pow_le_pow_right (by decide) (by omega)
      have h3 : x * 2 ^ 54 < 2 ^ 52 * 2 ^ 54 := Nat.mul_lt_mul_of_pos_right (by omega) (by decide)
      omega
    obtain ⟨j, i, hj, hi3⟩ : ∃ j i, e + 1 = 3 * j + i ∧ i < 3 := ⟨(e + 1) / 3, (e + 1) % 3, by omega, by omega⟩
    have hT : m / 3 + 2990241250352824320 < infR := by unfold infR at *; omega
    obtain ⟨k, hk, hk2⟩ : ∃ k, (m / 3 + 2990241250352824320) / 2 ^ 52 = k + 1 ∧ (k + 1 = j + 663 ∨ k + 1 = j + 664) := ⟨(m / 3 + 2990241250352824320) / 2 ^ 52 - 1, by omega, by omega⟩
    have hi2 := in_normal hT hk
    have hxi : In x (3 * j - 3) (3 * j - 3 + 3) := by
      refine ⟨hx, ?_, ?_⟩
      · rw [hmx]
        have h1 : 2 ^ (3 * j - 3) * 2 ^ 54 ≤ x * 2 ^ 54 := by
          rw [← Nat.pow_add]
          exact Nat.le_trans (Nat.pow_le_pow_right (by decide) (by omega)) hlo
        exact Nat.le_of_mul_le_mul_right h1 (by decide)
      · rw [hmx]
        have h1 : x * 2 ^ 54 ≤ 2 ^ (3 * j - 3 + 3) * 2 ^ 54 := by
          rw [← Nat.pow_add]
          exact Nat.le_trans hhi (Nat.pow_le_pow_right (by decide) (by omega))
        exact Nat.le_of_mul_le_mul_right h1 (by decide)
    exact ⟨_, 3 * j - 3, 714 + j, .inr ⟨by omega, m, hm, f1, rfl⟩, hxi, hi2.wide (by omega) (by omega), by omega, by omega, by omega⟩

theorem inC : In cC 1073 1074 := in_normal (e := 1021) (by decide) (by decide)
theorem inE : In cE 1074 1075 := in_normal (e := 1022) (by decide) (by decide)
theorem inF : In cF 1074 1075 := in_normal (e := 1022) (by decide) (by decide)
theorem inG : In cG 1072 1073 := in_normal (e := 1020) (by decide) (by decide)
theorem magC {v : Nat} (hv : v = 1020) : mag cC = (2 ^ 52 + cC % 2 ^ 52) * 2 ^ (v + 1) := mag_normal (by rw [hv]; decide)
theorem magE {v : Nat} (hv : v = 1020) : mag cE = (2 ^ 52 + cE % 2 ^ 52) * 2 ^ (v + 2) := mag_normal (by rw [hv]; decide)
theorem valD {v : Nat} (hv : v = 1020) : val cD = -(((2 ^ 52 + 4604528052325763124 % 2 ^ 52) * 2 ^ (v + 1) : Nat) : Int) ∧ rung cD < infR := by
  have h1 : rung cD = 4604528052325763124 := by decide
  have h2 : neg cD = true := by decide
  refine ⟨?_, by rw [h1]; decide⟩
  unfold val
  rw [h1, h2, if_pos rfl, mag_normal (x := 4604528052325763124) (e := v + 1) (by rw [hv])]
theorem one75 {v : Nat} (hv : v = 1020) : 4610560118520545280 < infR ∧ mag 4610560118520545280 = 7 * 2 ^ 50 * 2 ^ (v + 2) :=
  ⟨by decide, by rw [mag_normal (x := 4610560118520545280) (e := v + 2) (by rw [hv])]⟩
theorem one5 {v : Nat} (hv : v = 1020) : 4609434218613702656 < infR ∧ mag 4609434218613702656 = 3 * 2 ^ 51 * 2 ^ (v + 2) :=
  ⟨by decide, by rw [mag_normal (x := 4609434218613702656) (e := v + 2) (by rw [hv])]⟩
theorem quarter {v : Nat} (hv : v = 1020) : 4598175219545276416 < infR ∧ mag 4598175219545276416 = 2 ^ 52 * 2 ^ v :=
  ⟨by decide, by rw [mag_normal (x := 4598175219545276416) (e := v) (by rw [hv])]⟩
theorem pow_succ2 (v : Nat) : 2 ^ (v + 1) = 2 * 2 ^ v ∧ 2 ^ (v + 2) = 4 * 2 ^ v := by
  constructor
  · rw [Nat.pow_succ]; omega
  · rw [Nat.pow_succ, Nat.pow_succ]; omega
theorem c1_ge {s c1 : Nat} (hs : s < infR) (hC : cC ≤ s) (h1 : c1 < infR) (hm : Mono (val s + val cE) 1 c1) : 4610560118520545280 ≤ c1 := by
  obtain ⟨v, hv⟩ : ∃ v, v = 1020 := ⟨_, rfl⟩
  have k := hm.ge 4610560118520545280 (rung_fin (one75 hv).1) (by
    rw [val_self (one75 hv).1, val_self hs, val_self inE.fin, (one75 hv).2, magE hv]
    have h2 := mag_le hC
    rw [magC hv] at h2
    have := (pow_succ2 v).1
    have := (pow_succ2 v).2
    have d1 : cC % 2 ^ 52 = 4603064841997850097 % 2 ^ 52 := rfl
    have d2 : cE % 2 ^ 52 = 4609048195788499471 % 2 ^ 52 := rfl
    rw [d1] at h2
    rw [d2]
    generalize 2 ^ v = G at *
    generalize 2 ^ (v + 1) = G1 at *
    generalize 2 ^ (v + 2) = G2 at *
    generalize mag s = M at *
    subst G1; subst G2
    omega)
  rw [key_self (one75 hv).1, key_self h1] at k
  omega
theorem c2_fin {s c2 : Nat} {b : Nat} (hb : b = 1074) (hs : s < infR) (hC : cC ≤ s) (hm : Mono (val cD * 2 ^ b) (val s) c2) : key c2 ≤ 0 ∧ -(4609434218613702656 : Int) ≤ key c2 ∧ rung c2 < infR := by
  obtain ⟨v, hv⟩ : ∃ v, v = 1020 := ⟨_, rfl⟩
  obtain ⟨n1, n2, n3, n4⟩ := neg_word (one5 hv).1
  have k1 := hm.ge _ (by rw [n2]; exact (one5 hv).1) (by
    rw [n3, (one5 hv).2, (valD hv).1, val_self hs]
    have h2 := mag_le hC
    rw [magC hv] at h2
    have d1 : cC % 2 ^ 52 = 4603064841997850097 % 2 ^ 52 := rfl
    rw [d1] at h2
    have h3 : (2 ^ 52 + 4604528052325763124 % 2 ^ 52) * 2 ^ (v + 1) * 2 ^ b ≤ 3 * 2 ^ 51 * 2 ^ (v + 2) * mag s := by
      have h4 : 3 * 2 ^ 51 * 2 ^ (v + 2) * ((2 ^ 52 + 4603064841997850097 % 2 ^ 52) * 2 ^ (v + 1)) ≤ 3 * 2 ^ 51 * 2 ^ (v + 2) * mag s := Nat.mul_le_mul_left _ h2
      refine Nat.le_trans ?_ h4
      have e1 : 2 ^ b = 4 * 2 ^ 50 * 2 ^ (v + 2) := by
        rw [show b = 52 + (v + 2) by omega, Nat.pow_add]
      rw [e1]
      have e2 : (2 ^ 52 + 4604528052325763124 % 2 ^ 52) * 2 ^ (v + 1) * (4 * 2 ^ 50 * 2 ^ (v + 2)) = ((2 ^ 52 + 4604528052325763124 % 2 ^ 52) * (4 * 2 ^ 50)) * (2 ^ (v + 1) * 2 ^ (v + 2)) := by ac_rfl
      have e3 : 3 * 2 ^ 51 * 2 ^ (v + 2) * ((2 ^ 52 + 4603064841997850097 % 2 ^ 52) * 2 ^ (v + 1)) = (3 * 2 ^ 51 * (2 ^ 52 + 4603064841997850097 % 2 ^ 52)) * (2 ^ (v + 1) * 2 ^ (v + 2)) := by ac_rfl
      rw [e2, e3]
      exact Nat.mul_le_mul_right _ (by decide)
    rw [cast_pow, Int.neg_mul, Int.neg_mul]
    apply Int.neg_le_neg
    exact_mod_cast h3)
  have k2 := hm.le 0 (by decide) (by
    rw [val_zero, Int.zero_mul, (valD hv).1, cast_pow, Int.neg_mul]
    have : (0 : Int) ≤ (((2 ^ 52 + 4604528052325763124 % 2 ^ 52) * 2 ^ (v + 1) : Nat) : Int) * ((2 ^ b : Nat) : Int) := by exact_mod_cast Nat.zero_le _
    omega)
  rw [key_zero] at k2
  rw [n4] at k1
  exact ⟨k2, k1, fin_of_between hm.lt hm.num (one5 hv).1 (b := 0) (by decide) k1 k2⟩
theorem c3_in {c1 c2 c3 : Nat} (h1 : In c1 1074 1079) (hg : 4610560118520545280 ≤ c1) (k2 : key c2 ≤ 0) (k1 : -(4609434218613702656 : Int) ≤ key c2) (hm : Mono (val c1 + val c2) 1 c3) : In c3 1072 1079 := by
  obtain ⟨v, hv⟩ : ∃ v, v = 1020 := ⟨_, rfl⟩
  obtain ⟨n1, n2, n3, n4⟩ := neg_word (one5 hv).1
  have v2 : val c2 ≤ 0 := by have := val_le_of_key_le (x := c2) (y := 0) (by rw [key_zero]; exact k2); rw [val_zero] at this; exact this
  have v1 : -(mag 4609434218613702656 : Int) ≤ val c2 := by
    rw [← n3]; exact val_le_of_key_le (by rw [n4]; exact k1)
  refine in_of_mono hm (by decide) (by decide) ?_ ?_
  · rw [val_self h1.fin]
    have h2 := mag_le hg
    rw [(one75 hv).2] at h2
    rw [(one5 hv).2] at v1
    rw [show 1072 = 52 + v by omega, cast_pow, Nat.pow_add]
    have := (pow_succ2 v).2
    generalize 2 ^ v = G at *
    generalize 2 ^ (v + 2) = G2 at *
    generalize mag c1 = M at *
    subst G2
    omega
  · rw [val_self h1.fin, cast_pow]
    have := h1.hi
    generalize 2 ^ 1079 = X at *
    omega
theorem cbA {x T0 P Q : Nat} (hx : In x P (P + 3)) (hT : In T0 Q (Q + 2)) (hPQ : 3 * Q = P + 2145) (q1 : 715 ≤ Q) (q2 : Q ≤ 1414) : ∃ a1 r b1 s c1 c2 c3 c4 c5 t1, CbA x T0 a1 r b1 s c1 c2 c3 c4 c5 t1 ∧ In t1 (Q - 2) (Q + 6) := by
  obtain ⟨u, hu⟩ : ∃ u, u = 1074 := ⟨_, rfl⟩
  obtain ⟨a1, e1, i1⟩ := hT.mul hT hu (E := 2 * Q - 1074) (F := 2 * Q + 4 - 1074) (by omega) (by omega) (by omega)
  obtain ⟨r, e2, i2⟩ := i1.quo hx hu (E := 2142 - Q) (F := 2149 - Q) (by omega) (by omega) (by omega)
  obtain ⟨b1, e3, i3⟩ := i2.mul hT hu (E := 1068) (F := 1077) (by omega) (by omega) (by omega)
  obtain ⟨s, e4, i4, hCs, _, _⟩ := inC.add i3 (F := 1078) (by omega) (by omega) (by omega)
  obtain ⟨c1, e5, i5, _, _, m5⟩ := i4.add inE (F := 1079) (by omega) (by omega) (by omega)
  have g5 := c1_ge i4.fin hCs i5.fin m5
  have i5' : In c1 1074 1079 := by
    obtain ⟨v, hv⟩ : ∃ v, v = 1020 := ⟨_, rfl⟩
    refine ⟨i5.fin, ?_, i5.hi⟩
    have h2 := mag_le g5
    rw [(one75 hv).2, (pow_succ2 v).2] at h2
    rw [show 1074 = 54 + v by omega, Nat.pow_add]
    generalize 2 ^ v = G at *
    omega
  obtain ⟨c2, e6, m6⟩ := quo_mono (x := cD) (y := s) (by decide) (rung_fin i4.fin) i4.pos hu
  obtain ⟨k2, k1, f6⟩ := c2_fin hu i4.fin hCs m6
  obtain ⟨c3, e7, m7⟩ := add_mono (rung_fin i5.fin) f6
  have i7 := c3_in i5' g5 k2 k1 m7
  obtain ⟨c4, e8, i8⟩ := inF.quo i7 hu (E := 1069) (F := 1077) (by omega) (by omega) (by omega)
  obtain ⟨c5, e9, i9, _⟩ := inG.add i8 (F := 1078) (by omega) (by omega) (by omega)
  obtain ⟨t1, e10, i10⟩ := hT.mul i9 hu (E := Q - 2) (F := Q + 6) (by omega) (by omega) (by omega)
  exact ⟨a1, r, b1, s, c1, c2, c3, c4, c5, t1, ⟨e1, e2, e3, e4, e5, e6, e7, e8, e9, e10⟩, i10⟩

/-- The root, its low bits cleared and one added. -/
theorem chop {t1 Q : Nat} (h : In t1 (Q - 2) (Q + 6)) (q1 : 715 ≤ Q) (q2 : Q ≤ 1414) : In (t1 / 2 ^ 30 * 2 ^ 30 + 2 ^ 30) (Q - 2) (Q + 7) := by
  obtain ⟨p, hp, ep⟩ := exists_rung 1 (Q + 6) (by decide) (by omega)
  rw [Nat.one_mul] at ep
  have h1 : t1 ≤ p := le_of_mag (by rw [ep]; exact h.hi)
  have hpn : ¬ p < 2 ^ 52 := by
    intro hlt
    have h2 : mag p = p := by unfold mag; rw [if_pos hlt]
    have h3 : 2 ^ 52 ≤ 2 ^ (Q + 6) := Nat.pow_le_pow_right (by decide) (by omega)
    rw [← ep, h2] at h3; omega
  have hd : mag (p + 2 ^ 52) = 2 ^ (Q + 7) := by
    have := mag_dbl p
    rw [dbl, if_neg hpn, ep] at this
    rw [this, ← Nat.pow_succ']
  have hlt : t1 / 2 ^ 30 * 2 ^ 30 + 2 ^ 30 ≤ p + 2 ^ 52 := by omega
  obtain ⟨p', hp', ep'⟩ := exists_rung 1 (Q + 7) (by decide) (by omega)
  rw [Nat.one_mul] at ep'
  have : p + 2 ^ 52 = p' := mag_inj (by rw [hd, ep'])
  exact ⟨by omega, Nat.le_trans h.lo (mag_le (by omega)), by rw [← hd]; exact mag_le hlt⟩
theorem one_word : (4607182418800017408 : Nat) < infR ∧ ∀ b : Nat, b = 1074 → mag 4607182418800017408 = 2 ^ b := by
  refine ⟨by decide, fun b hb => ?_⟩
  obtain ⟨v, hv⟩ : ∃ v, v = 1022 := ⟨_, rfl⟩
  rw [mag_normal (x := 4607182418800017408) (e := v) (by rw [hv]), show 4607182418800017408 % 2 ^ 52 = 0 by decide, Nat.add_zero, ← Nat.pow_add]
  congr 1; omega
theorem half_word : (4602678819172646912 : Nat) < infR ∧ ∀ b : Nat, b + 1 = 1074 → mag 4602678819172646912 = 2 ^ b := by
  refine ⟨by decide, fun b hb => ?_⟩
  obtain ⟨v, hv⟩ : ∃ v, v = 1021 := ⟨_, rfl⟩
  rw [mag_normal (x := 4602678819172646912) (e := v) (by rw [hv]), show 4602678819172646912 % 2 ^ 52 = 0 by decide, Nat.add_zero, ← Nat.pow_add]
  congr 1; omega
theorem cbB {x t2 P Q : Nat} (hx : In x P (P + 3)) (ht : In t2 (Q - 2) (Q + 7)) (hPQ : 3 * Q = P + 2145) (q1 : 715 ≤ Q) (q2 : Q ≤ 1414) : ∃ s2 r2 w d e f g t, CbB x t2 s2 r2 w d e f g t ∧ 0 < t ∧ t < infR ∧ t2 ≤ t + 2 ^ 52 ∧ t ≤ t2 + 2 ^ 52 := by
  obtain ⟨u, hu⟩ : ∃ u, u = 1074 := ⟨_, rfl⟩
  obtain ⟨u', hu'⟩ : ∃ u', u' + 1 = 1074 := ⟨1073, rfl⟩
  obtain ⟨s2, e1, i1⟩ := ht.mul ht hu (E := 2 * Q - 4 - 1074) (F := 2 * Q + 14 - 1074) (by omega) (by omega) (by omega)
  obtain ⟨r2, e2, i2⟩ := hx.quo i1 hu (E := Q - 11) (F := Q + 10) (by omega) (by omega) (by omega)
  obtain ⟨w, e3, i3, _, _, m3⟩ := ht.add ht (F := Q + 8) (by omega) (by omega) (by omega)
  obtain ⟨e, e5, i5, wle, rle, m5⟩ := i3.add i2 (F := Q + 11) (by omega) (by omega) (by omega)
  -- t2 is normal: its double, its half
  have hn : ¬ t2 < 2 ^ 53 := by
    intro hlt
    have h1 : mag t2 ≤ mag (2 ^ 53) := mag_le (Nat.le_of_lt hlt)
    have h2 : mag (2 ^ 53) = 2 ^ 53 := by decide
    have h3 : 2 ^ 54 ≤ 2 ^ (Q - 2) := Nat.pow_le_pow_right (by decide) (by omega)
    have := ht.lo
    omega
  have hdb : mag (t2 + 2 ^ 52) = 2 * mag t2 := by have := mag_dbl t2; rw [dbl, if_neg (by omega)] at this; exact this
  obtain ⟨q, hq⟩ : ∃ q, q + 2 ^ 52 = t2 := ⟨t2 - 2 ^ 52, by omega⟩
  have hhf : 2 * mag q = mag t2 := by
    have := mag_dbl q
    rw [dbl, if_neg (by omega), hq] at this
    omega
  have hdf : t2 + 2 ^ 52 < infR := by
    obtain ⟨p, hp, ep⟩ := exists_rung 1 (Q + 8) (by decide) (by omega)
    rw [Nat.one_mul] at ep
    have : t2 + 2 ^ 52 ≤ p := le_of_mag (by
      rw [hdb, ep, show Q + 8 = (Q + 7) + 1 by omega, Nat.pow_succ]
      have := ht.hi; omega)
    omega
  have hhfin : q < infR := by have := ht.fin; omega
  -- w is twice t2
  have hw : 2 * mag t2 ≤ mag w := by
    have k := m3.ge (t2 + 2 ^ 52) (rung_fin hdf) (by rw [val_self hdf, val_self ht.fin, hdb]; omega)
    rw [key_self hdf, key_self i3.fin] at k
    rw [← hdb]; exact mag_le (by omega)
  have he : 2 * mag t2 ≤ mag e := Nat.le_trans hw (mag_le wle)
  -- the difference
  obtain ⟨n1, n2, n3, n4⟩ := neg_word ht.fin
  have ht64 : t2 < 2 ^ 64 := by have := ht.fin; unfold infR at this; omega
  obtain ⟨d, e4', m4⟩ := add_mono (x := r2) (y := Op.negFloat .f64 t2) (rung_fin i2.fin) (by rw [n2]; exact ht.fin)
  have e4 : floatBits .sub .f64 r2 t2 = some d := by rw [sub_is_add ht64]; exact e4'
  have vr := val_self i2.fin
  have kd1 := m4.ge (Op.negFloat .f64 t2) (by rw [n2]; exact ht.fin) (by rw [n3, vr]; omega)
  have kd2 := m4.le r2 (rung_fin i2.fin) (by rw [n3, vr]; omega)
  have fd : rung d < infR := fin_of_between m4.lt m4.num ht.fin i2.fin (by rw [n4] at kd1; exact kd1) (by rw [key_self i2.fin] at kd2; exact kd2)
  have vd1 : -(mag t2 : Int) ≤ val d := by rw [← n3]; exact val_le_of_key_le kd1
  have vd2 : val d ≤ (mag r2 : Int) := by rw [← vr]; exact val_le_of_key_le kd2
  -- the quotient
  obtain ⟨f, e6, m6⟩ := quo_mono fd (rung_fin i5.fin) i5.pos hu
  obtain ⟨o1, o2⟩ := one_word
  obtain ⟨hw1, hw2⟩ := half_word
  obtain ⟨h1, h2, h3, h4⟩ := neg_word hw1
  have ve := val_self i5.fin
  have pu : (2 : Int) ^ u = 2 * 2 ^ u' := by rw [show u = u' + 1 by omega, Int.pow_succ, Int.mul_comm]
  have pp : (0 : Int) < 2 ^ u' := Int.pow_pos (by decide)
  have kf1 := m6.ge _ (by rw [h2]; exact hw1) (by
    rw [h3, hw2 u' hu', ve, pu, ← cast_pow, Int.neg_mul]
    have h5 : -((mag e : Nat) : Int) ≤ 2 * val d := by omega
    have h6 := Int.mul_le_mul_of_nonneg_right h5 (Int.le_of_lt pp)
    have e8 : 2 * val d * 2 ^ u' = val d * (2 * 2 ^ u') := by ac_rfl
    have e9 : -(mag e : Int) * 2 ^ u' = -(2 ^ u' * (mag e : Int)) := by rw [Int.neg_mul, Int.mul_comm]
    rw [e8, e9] at h6
    exact h6)
  have kf2 := m6.le _ (rung_fin o1) (by
    rw [val_self o1, o2 u hu, ve, ← cast_pow, Int.mul_comm]
    refine Int.mul_le_mul_of_nonneg_left ?_ (Int.le_of_lt (Int.pow_pos (by decide)))
    have := mag_le rle
    omega)
  have ff : rung f < infR := fin_of_between m6.lt m6.num hw1 o1 (by rw [h4] at kf1; exact kf1) (by rw [key_self o1] at kf2; exact kf2)
  have vf1 : -(2 ^ u' : Int) ≤ val f := by
    have := val_le_of_key_le kf1
    rw [h3, hw2 u' hu', ← cast_pow] at this; exact this
  have vf2 : val f ≤ 2 ^ u := by
    have := val_le_of_key_le kf2
    rw [val_self o1, o2 u hu, ← cast_pow] at this; exact this
  -- the correction
  obtain ⟨g, e7, m7⟩ := mul_mono (rung_fin ht.fin) ff hu
  obtain ⟨b1, b2, b3, b4⟩ := neg_word hhfin
  have vt := val_self ht.fin
  have kg1 := m7.ge _ (by rw [b2]; exact hhfin) (by
    rw [b3, vt, pu, Int.neg_mul]
    have h5 := Int.mul_le_mul_of_nonneg_left vf1 (Int.natCast_nonneg (mag t2))
    have e8 : (mag q : Int) * (2 * 2 ^ u') = (mag t2 : Int) * 2 ^ u' := by
      rw [← hhf]; push_cast; ac_rfl
    rw [e8]
    rw [Int.mul_neg] at h5
    exact h5)
  have kg2 := m7.le t2 (rung_fin ht.fin) (by
    rw [vt]
    exact Int.mul_le_mul_of_nonneg_left vf2 (Int.natCast_nonneg _))
  have fg : rung g < infR := fin_of_between m7.lt m7.num hhfin ht.fin (by rw [b4] at kg1; exact kg1) (by rw [key_self ht.fin] at kg2; exact kg2)
  have vg1 : -(mag q : Int) ≤ val g := by rw [← b3]; exact val_le_of_key_le kg1
  have vg2 : val g ≤ (mag t2 : Int) := by rw [← vt]; exact val_le_of_key_le kg2
  obtain ⟨t, e8, m8⟩ := add_mono (rung_fin ht.fin) fg
  have kt1 := m8.ge q (rung_fin hhfin) (by rw [val_self hhfin, vt]; omega)
  have kt2 := m8.le (t2 + 2 ^ 52) (rung_fin hdf) (by rw [val_self hdf, vt, hdb]; omega)
  rw [key_self hhfin] at kt1
  obtain ⟨f1, f2⟩ := pos_of_key m8.lt m8.num (by omega) hdf kt2
  rw [key_self f1] at kt1
  exact ⟨s2, r2, w, d, e, f, g, t, ⟨e1, e2, e3, e4, e5, e6, e7, e8⟩, by omega, f1, by omega, f2⟩

/-- The cube root of a positive finite word. -/
def CB (x t : Nat) : Prop := ∃ T0 a1 r b1 s c1 c2 c3 c4 c5 t1 s2 r2 w d e f g, Rough x T0 ∧ T0 < infR ∧ t1 < infR ∧ CbA x T0 a1 r b1 s c1 c2 c3 c4 c5 t1 ∧ CbB x (t1 / 2 ^ 30 * 2 ^ 30 + 2 ^ 30) s2 r2 w d e f g t
theorem cb_exists {x : Nat} (h0 : 0 < x) (hx : x < infR) : ∃ t, CB x t ∧ 0 < t ∧ t < infR := by
  obtain ⟨T0, P, Q, hR, hxi, hTi, hPQ, q1, q2⟩ := rough h0 hx
  obtain ⟨a1, r, b1, s, c1, c2, c3, c4, c5, t1, hA, ht1⟩ := cbA hxi hTi hPQ q1 q2
  obtain ⟨s2, r2, w, d, e, f, g, t, hB, h1, h2, _⟩ := cbB hxi (chop ht1 q1 q2) hPQ q1 q2
  exact ⟨t, ⟨T0, a1, r, b1, s, c1, c2, c3, c4, c5, t1, s2, r2, w, d, e, f, g, hR, hTi.fin, ht1.fin, hA, hB⟩, h1, h2⟩
end Go.Fl
