/- Rounding half away from zero by bits. No program in sight. -/
import Derived.Test.YtgaodnflifkaiaaDoorF64K
import Derived.Laws.BitsAllLaws
namespace Go.Fl
open Ieee
set_option linter.unusedVariables false
set_option linter.unusedSimpArgs false

/-- The exponent field. -/
def ex (x : Nat) : Nat := rung x / 2 ^ 52
theorem ex_bits {x : Nat} (hx : x < 2 ^ 64) : bits .and .u64 ((x : Int) / 4503599627370496) 2047 = (ex x : Int) := by
  have e1 : (x : Int) / 4503599627370496 = ((x / 4503599627370496 : Nat) : Int) := by omega
  rw [e1]
  have h := u64_and_nat (x / 4503599627370496) 2047 (by omega) (by decide)
  have e2 : ((2047 : Nat) : Int) = 2047 := rfl
  rw [e2] at h
  rw [h]
  have e3 : x / 4503599627370496 &&& 2047 = x / 4503599627370496 % 2048 := Nat.and_two_pow_sub_one_eq_mod _ 11
  rw [e3]
  unfold ex rung
  omega
theorem sign_bits {x : Nat} (hx : x < 2 ^ 64) : bits .and .u64 (x : Int) 9223372036854775808 = ((wd (neg x) 0 : Nat) : Int) := by
  have h := u64_and_nat x 9223372036854775808 (by omega) (by decide)
  have e2 : ((9223372036854775808 : Nat) : Int) = 9223372036854775808 := rfl
  rw [e2] at h
  rw [h]
  have e3 : x &&& 9223372036854775808 = x / 2 ^ 63 % 2 * 2 ^ 63 := nat_bit 63 x
  rw [e3]
  unfold wd neg
  have : x / 2 ^ 63 % 2 = 0 ∨ x / 2 ^ 63 % 2 = 1 := by omega
  rcases this with h | h <;> rw [h] <;> rfl
theorem one_bits (s : Bool) : bits .or .u64 ((wd s 0 : Nat) : Int) 4607182418800017408 = ((wd s 4607182418800017408 : Nat) : Int) := by
  have h := u64_or_nat (wd s 0) 4607182418800017408 (by unfold wd; split <;> omega) (by decide)
  have e2 : ((4607182418800017408 : Nat) : Int) = 4607182418800017408 := rfl
  rw [e2] at h
  rw [h]
  have e3 : wd s 0 ||| 4607182418800017408 = wd s 0 + 4607182418800017408 := nat_join 63 _ _ (by unfold wd; cases s <;> rfl) (by decide)
  rw [e3]
  cases s <;> rfl

theorem clear_low (y c : Nat) (hy : y < 2 ^ 64) (hc : c ≤ 64) : y &&& (2 ^ 64 - 2 ^ c) = y / 2 ^ c * 2 ^ c := by
  apply Nat.eq_of_testBit_eq
  intro i
  have hp := Nat.two_pow_pos c
  have e1 : 2 ^ 64 - 2 ^ c = 2 ^ 64 - ((2 ^ c - 1) + 1) := by omega
  have hlt : 2 ^ c - 1 < 2 ^ 64 := by
    have := Nat.pow_le_pow_right (show 0 < 2 by decide) hc
    omega
  rw [Nat.testBit_and, e1, Nat.testBit_two_pow_sub_succ hlt, Nat.testBit_two_pow_sub_one]
  rw [← Nat.shiftRight_eq_div_pow, ← Nat.shiftLeft_eq, Nat.testBit_shiftLeft, Nat.testBit_shiftRight]
  by_cases h1 : i < c
  · have : ¬ c ≤ i := by omega
    simp [h1, this]
  · have h2 : c ≤ i := by omega
    have h3 : c + (i - c) = i := by omega
    rw [h3]
    by_cases h4 : i < 64
    · simp [h1, h2, h4]
    · have : y.testBit i = false := Nat.testBit_lt_two_pow (Nat.lt_of_lt_of_le hy (Nat.pow_le_pow_right (by decide) (by omega)))
      simp [this]

theorem pow_eq {a b : Nat} (h : a = b) : 2 ^ a = 2 ^ b := by rw [h]
/-- The whole and the fractional part by fields, from 1 to 2^52. -/
theorem parts_fields {x : Nat} (e' : Nat) (he : ex x = 1023 + e') (h : e' ≤ 51) : tr x = (2 ^ 52 + rung x % 2 ^ 52) / 2 ^ (52 - e') ∧ rs x = (2 ^ 52 + rung x % 2 ^ 52) % 2 ^ (52 - e') * 2 ^ (1022 + e') ∧ U = 2 ^ (52 - e') * 2 ^ (1022 + e') ∧ mag (rung x) = (2 ^ 52 + rung x % 2 ^ 52) * 2 ^ (1022 + e') := by
  obtain ⟨E, hE⟩ : ∃ E : Nat, E = 1074 := ⟨_, rfl⟩
  have hr : rung x / 2 ^ 52 = 1023 + e' := he
  have e0 : E = (52 - e') + (1022 + e') := by omega
  have hU : U = 2 ^ (52 - e') * 2 ^ (1022 + e') := by rw [U_pow hE, e0, Nat.pow_add]
  have hm : mag (rung x) = (2 ^ 52 + rung x % 2 ^ 52) * 2 ^ (1022 + e') := by
    unfold mag
    have e1 : rung x / 2 ^ 52 - 1 = 1022 + e' := by omega
    rw [if_neg (by omega), e1]
  refine ⟨?_, ?_, hU, hm⟩
  · unfold tr; rw [hm, hU, Nat.mul_div_mul_right _ _ (Nat.two_pow_pos _)]
  · unfold rs; rw [hm, hU, Nat.mul_mod_mul_right]

theorem round_fields {x : Nat} (hx : x < 2 ^ 64) (e' : Nat) (he : ex x = 1023 + e') (h : e' ≤ 51) : (x + 2 ^ (51 - e')) / 2 ^ (52 - e') * 2 ^ (52 - e') = roundW x := by
  obtain ⟨h1, h2, h3, h4⟩ := parts_fields e' he h
  obtain ⟨c, hc⟩ : ∃ c, 52 - e' = c + 1 := ⟨51 - e', by omega⟩
  have hc2 : 51 - e' = c := by omega
  rw [hc] at h1 h2 h3 ⊢
  rw [hc2]
  have hr : rung x / 2 ^ 52 = 1023 + e' := he
  obtain ⟨g, hg⟩ : ∃ g, 2 ^ 52 + rung x % 2 ^ 52 = g := ⟨_, rfl⟩
  rw [hg] at h1 h2 h4
  have hpk := Nat.two_pow_pos (1022 + e')
  have hD : 0 < 2 ^ (c + 1) := Nat.two_pow_pos _
  have hDh : 2 ^ (c + 1) = 2 * 2 ^ c := by rw [Nat.pow_succ, Nat.mul_comm]
  have hgr : rung x = (1022 + e') * 2 ^ 52 + g := by omega
  have hg2 : 2 ^ 52 ≤ g ∧ g < 2 ^ 53 := by omega
  -- 2 ^ 52 and 2 ^ 63 are multiples of D
  obtain ⟨a, ha⟩ : ∃ a, 2 ^ 52 = a * 2 ^ (c + 1) := ⟨2 ^ e', by rw [← Nat.pow_add, pow_eq (show e' + (c + 1) = 52 by omega)]⟩
  obtain ⟨b, hb⟩ : ∃ b, 2 ^ 63 = b * 2 ^ (c + 1) := ⟨2 ^ (e' + 11), by rw [← Nat.pow_add, pow_eq (show e' + 11 + (c + 1) = 63 by omega)]⟩
  -- the rounded whole
  have hN : roundM x = (g + 2 ^ c) / 2 ^ (c + 1) := by
    have hdec : decide (U ≤ 2 * rs x) = decide (2 ^ (c + 1) ≤ 2 * (g % 2 ^ (c + 1))) := by
      rw [decide_eq_decide]
      rw [h2, h3, ← Nat.mul_assoc]
      exact ⟨fun hh => Nat.le_of_mul_le_mul_right hh hpk, fun hh => Nat.mul_le_mul_right _ hh⟩
    unfold roundM
    rw [hdec, h1]
    have hmod : g % 2 ^ (c + 1) < 2 ^ (c + 1) := Nat.mod_lt _ hD
    have hdm : 2 ^ (c + 1) * (g / 2 ^ (c + 1)) + g % 2 ^ (c + 1) = g := Nat.div_add_mod _ _
    generalize g / 2 ^ (c + 1) = q at *
    generalize g % 2 ^ (c + 1) = f at *
    by_cases hcmp : 2 ^ (c + 1) ≤ 2 * f
    · simp only [hcmp, decide_true, Bool.toNat_true]
      symm
      rw [Nat.div_eq_iff hD]
      have e1 : (q + 1) * 2 ^ (c + 1) = 2 ^ (c + 1) * q + 2 ^ (c + 1) := by rw [Nat.add_mul, Nat.one_mul, Nat.mul_comm]
      omega
    · simp only [hcmp, decide_false, Bool.toNat_false, Nat.add_zero]
      symm
      rw [Nat.div_eq_iff hD]
      have e1 : q * 2 ^ (c + 1) = 2 ^ (c + 1) * q := Nat.mul_comm _ _
      omega
  obtain ⟨N, hNN⟩ : ∃ N, roundM x = N := ⟨_, rfl⟩
  rw [hNN] at hN
  -- bounds of N * D
  have hND : 2 ^ 52 ≤ N * 2 ^ (c + 1) ∧ N * 2 ^ (c + 1) ≤ 2 ^ 53 := by
    constructor
    · rw [ha]
      refine Nat.mul_le_mul_right _ ?_
      rw [hN, Nat.le_div_iff_mul_le hD, ← ha]; omega
    · have h53 : (2 : Nat) ^ 53 = (2 * a) * 2 ^ (c + 1) := by rw [Nat.mul_assoc, ← ha]
      rw [h53]
      refine Nat.mul_le_mul_right _ ?_
      rw [hN]
      have : (g + 2 ^ c) / 2 ^ (c + 1) < 2 * a + 1 := by
        rw [Nat.div_lt_iff_lt_mul hD, Nat.add_mul, ← h53, Nat.one_mul]
        omega
      omega
  -- the word
  have hword : (x + 2 ^ c) / 2 ^ (c + 1) * 2 ^ (c + 1) = wd (neg x) ((1022 + e') * 2 ^ 52 + N * 2 ^ (c + 1)) := by
    have hxs : x = wd (neg x) (rung x) := (wd_self hx).symm
    have key : ∀ s : Bool, (wd s (rung x) + 2 ^ c) / 2 ^ (c + 1) * 2 ^ (c + 1) = wd s ((1022 + e') * 2 ^ 52 + N * 2 ^ (c + 1)) := by
      intro s
      have e1 : (1022 + e') * 2 ^ 52 = (1022 + e') * a * 2 ^ (c + 1) := by rw [ha, Nat.mul_assoc]
      unfold wd
      rw [hgr]
      cases s
      · simp only [Bool.false_eq_true, if_false]
        rw [e1, Nat.add_assoc, Nat.mul_comm ((1022 + e') * a), Nat.mul_add_div hD, ← hN, Nat.add_mul, Nat.mul_comm (2 ^ (c + 1))]
      · simp only [if_true]
        rw [e1, hb, Nat.add_assoc, Nat.add_assoc, Nat.mul_comm b, Nat.mul_add_div hD, Nat.mul_comm ((1022 + e') * a), Nat.mul_add_div hD, ← hN, Nat.add_mul, Nat.add_mul, Nat.mul_comm (2 ^ (c + 1)) b, Nat.mul_comm (2 ^ (c + 1))]
    rw [hxs] 
    rw [neg_wd _ (rung_lt x), ← hxs]
    conv => lhs; rw [hxs]
    exact key (neg x)
  rw [hword]
  -- its value
  have hle : e' ≤ 51 := h
  have h63 : (1022 + e') * 2 ^ 52 + N * 2 ^ (c + 1) < 2 ^ 63 := by omega
  have hmag : mag ((1022 + e') * 2 ^ 52 + N * 2 ^ (c + 1)) = N * U := by
    have hU : N * U = N * 2 ^ (c + 1) * 2 ^ (1022 + e') := by rw [h3, Nat.mul_assoc]
    rw [hU]
    generalize N * 2 ^ (c + 1) = d at hND
    by_cases hd : d = 2 ^ 53
    · subst hd
      have e1 : ((1022 + e') * 2 ^ 52 + 2 ^ 53) / 2 ^ 52 - 1 = (1022 + e') + 1 := by omega
      have e2 : 2 ^ 52 + ((1022 + e') * 2 ^ 52 + 2 ^ 53) % 2 ^ 52 = 2 ^ 52 := by omega
      unfold mag
      rw [if_neg (by omega), e1, e2, Nat.pow_succ 2 (1022 + e'), show (2 : Nat) ^ 53 = 2 ^ 52 * 2 by decide, Nat.mul_assoc, Nat.mul_comm 2]
    · have e1 : ((1022 + e') * 2 ^ 52 + d) / 2 ^ 52 - 1 = 1022 + e' := by omega
      have e2 : 2 ^ 52 + ((1022 + e') * 2 ^ 52 + d) % 2 ^ 52 = d := by omega
      unfold mag
      rw [if_neg (by omega), e1, e2]
  have hsm : rung x < 4841369599423283200 := by omega
  have hNle := roundM_le hsm
  rw [hNN] at hNle
  have hi := iw_is (neg x) (show N ≤ 2 ^ 53 by omega)
  unfold roundW
  rw [hNN]
  refine word_ext (wd_lt _ h63) (iw_lt _ _) ?_ ?_
  · rw [neg_wd _ h63, hi.sg]
  · rw [rung_wd _ h63]
    exact mag_inj (by rw [hmag, iw_mag _ (show N ≤ 2 ^ 53 by omega)])

theorem half_mag : mag 4602678819172646912 * 2 = U := by
  have h := half_val
  have hn : neg 4602678819172646912 = false := by decide
  have hr : rung 4602678819172646912 = 4602678819172646912 := by decide
  unfold val at h
  rw [hn, hr] at h
  simp only [Bool.false_eq_true, if_false] at h
  omega
theorem one_mag : mag 4607182418800017408 = U := by
  have h := iw_mag false (n := 1) (by decide)
  have e : iw false 1 = 4607182418800017408 := by decide
  have hr : rung 4607182418800017408 = 4607182418800017408 := by decide
  rw [e, hr, Nat.one_mul] at h
  exact h
theorem round_tiny {x : Nat} (h : ex x < 1022) : roundW x = wd (neg x) 0 := by
  have hr : rung x < 4602678819172646912 := by unfold ex at h; omega
  have hm := mag_lt hr
  have hh := half_mag
  have htr : tr x = 0 := by unfold tr; exact Nat.div_eq_of_lt (by omega)
  have hrs := tr_rs x
  rw [htr, Nat.zero_mul, Nat.zero_add] at hrs
  have hd : decide (U ≤ 2 * rs x) = false := by rw [decide_eq_false_iff_not]; omega
  unfold roundW roundM
  rw [htr, hd]
  exact iw_zero (neg x)
theorem round_half {x : Nat} (h : ex x = 1022) : roundW x = wd (neg x) 4607182418800017408 := by
  have hr1 : rung x < 4607182418800017408 := by unfold ex at h; omega
  have hr2 : ¬ rung x < 4602678819172646912 := by unfold ex at h; omega
  have hm := mag_lt hr1
  rw [one_mag] at hm
  have hm2 : ¬ mag (rung x) < mag 4602678819172646912 := fun hh => hr2 (mag_lt_iff.1 hh)
  have hh := half_mag
  have htr : tr x = 0 := by unfold tr; exact Nat.div_eq_of_lt hm
  have hrs := tr_rs x
  rw [htr, Nat.zero_mul, Nat.zero_add] at hrs
  have hd : decide (U ≤ 2 * rs x) = true := by rw [decide_eq_true_eq]; omega
  unfold roundW roundM
  rw [htr, hd]
  cases neg x
  · show iw false 1 = _; decide
  · show iw true 1 = _; decide
/-- The bits in the middle range, as the walk spells them. -/
theorem mid_bits {x : Nat} (hx : x < 2 ^ 64) (h1 : 1023 ≤ ex x) (h2 : ex x < 1075) : (bits .andNot .u64 (IntKind.u64.wrap ((x : Int) + 2251799813685248 / 2 ^ (ex x - 1023))) (4503599627370495 / 2 ^ (ex x - 1023))).toNat = roundW x := by
  obtain ⟨e', he⟩ : ∃ e', ex x = 1023 + e' := ⟨ex x - 1023, by omega⟩
  have hle : e' ≤ 51 := by omega
  rw [← round_fields hx e' he hle]
  have e1 : ex x - 1023 = e' := by omega
  rw [e1]
  obtain ⟨c, hc⟩ : ∃ c, 51 - e' = c := ⟨_, rfl⟩
  have hc2 : 52 - e' = c + 1 := by omega
  rw [hc, hc2]
  have hp := Nat.two_pow_pos e'
  have hpc := Nat.two_pow_pos c
  have p1 : 2 ^ c * 2 ^ e' = 2251799813685248 := by rw [← Nat.pow_add, pow_eq (show c + e' = 51 by omega)]
  have p2 : 2 ^ (c + 1) * 2 ^ e' = 4503599627370496 := by rw [← Nat.pow_add, pow_eq (show c + 1 + e' = 52 by omega)]
  have d1 : 2251799813685248 / 2 ^ e' = 2 ^ c := by rw [← p1, Nat.mul_div_cancel _ hp]
  have d2 : 4503599627370495 / 2 ^ e' = 2 ^ (c + 1) - 1 := by
    rw [Nat.div_eq_iff hp, Nat.sub_mul, p2]
    omega
  have i1 : (2251799813685248 : Int) / 2 ^ e' = ((2 ^ c : Nat) : Int) := by rw [← d1, Int.natCast_ediv, Int.natCast_pow]; rfl
  have i2 : (4503599627370495 : Int) / 2 ^ e' = ((2 ^ (c + 1) - 1 : Nat) : Int) := by rw [← d2, Int.natCast_ediv, Int.natCast_pow]; rfl
  rw [i1, i2]
  have hcl : 2 ^ (c + 1) ≤ 2 ^ 52 := Nat.pow_le_pow_right (by decide) (by omega)
  have hcl2 : 2 ^ c ≤ 2 ^ 51 := Nat.pow_le_pow_right (by decide) (by omega)
  have hb : x + 2 ^ c < 2 ^ 64 := by
    have h3 : rung x < 1075 * 2 ^ 52 := by unfold ex at h2; omega
    have := wd_self hx
    unfold wd at this
    split at this <;> omega
  have hw : IntKind.u64.wrap ((x : Int) + ((2 ^ c : Nat) : Int)) = ((x + 2 ^ c : Nat) : Int) := by
    rw [IntKind.wrap_u64]
    have : (((x + 2 ^ c : Nat) : Int)) = (x : Int) + ((2 ^ c : Nat) : Int) := by push_cast; rfl
    rw [← this]
    omega
  rw [hw, u64_andNot_nat _ _ hb (by omega)]
  have e3 : 18446744073709551615 - (2 ^ (c + 1) - 1) = 2 ^ 64 - 2 ^ (c + 1) := by
    have := Nat.two_pow_pos (c + 1)
    omega
  rw [e3, clear_low _ _ hb (by omega)]
  rfl

end Go.Fl
