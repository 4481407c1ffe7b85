/- Powers of two as float64 words, by their rungs; doubling, halving, the fields that frexp reads. -/
import Derived.Test.YthockcodajmkmaaF64R
namespace Go.Fl
open Ieee
set_option linter.unusedVariables false
set_option linter.unusedSimpArgs false

/-- The word of 2 ^ i. -/
def pw (i : Int) : Nat := if -1022 ≤ i then (i + 1023).toNat * 2 ^ 52 else 2 ^ (i + 1074).toNat
theorem pw_lt {i : Int} (h1 : -1074 ≤ i) (h2 : i ≤ 1023) : pw i < infR ∧ 0 < pw i := by
  unfold pw
  split
  · unfold infR; omega
  · have h : 2 ^ (i + 1074).toNat < 2 ^ 52 := Nat.pow_lt_pow_right (by decide) (by omega)
    have := Nat.two_pow_pos (i + 1074).toNat
    unfold infR; omega
theorem pw_rung {i : Int} (h1 : -1074 ≤ i) (h2 : i ≤ 1023) : rung (pw i) = pw i ∧ neg (pw i) = false ∧ pw i < 2 ^ 64 := by
  obtain ⟨h, _⟩ := pw_lt h1 h2
  unfold infR at h
  unfold rung neg
  refine ⟨by omega, ?_, by omega⟩
  have : pw i / 2 ^ 63 = 0 := Nat.div_eq_of_lt (by omega)
  rw [this]; rfl
theorem pw_mag {i : Int} (h1 : -1074 ≤ i) (h2 : i ≤ 1023) : mag (pw i) = 2 ^ (i + 1074).toNat := by
  unfold pw
  by_cases h : -1022 ≤ i
  · rw [if_pos h]
    unfold mag
    have e1 : (i + 1023).toNat * 2 ^ 52 % 2 ^ 52 = 0 := Nat.mul_mod_left _ _
    have e2 : (i + 1023).toNat * 2 ^ 52 / 2 ^ 52 = (i + 1023).toNat := Nat.mul_div_cancel _ (by decide)
    have e3 : (i + 1074).toNat = 52 + ((i + 1023).toNat - 1) := by omega
    rw [if_neg (by omega), e1, e2, e3, Nat.pow_add, Nat.add_zero]
  · rw [if_neg h]
    have hl : 2 ^ (i + 1074).toNat < 2 ^ 52 := Nat.pow_lt_pow_right (by decide) (by omega)
    unfold mag
    rw [if_pos hl]
theorem pw_double {i : Int} (h1 : -1074 ≤ i) (h2 : i ≤ 1022) (w : World) : fop .mul w (pw i) 4611686018427387904 = pw (i + 1) := by
  obtain ⟨r1, n1, l1⟩ := pw_rung h1 (show i ≤ 1023 by omega)
  obtain ⟨r2, n2, l2⟩ := pw_rung (show -1074 ≤ i + 1 by omega) (show i + 1 ≤ 1023 by omega)
  have hd : dbl (pw i) = pw (i + 1) := by
    apply mag_inj
    rw [mag_dbl, pw_mag h1 (by omega), pw_mag (by omega) (by omega)]
    have : (i + 1 + 1074).toNat = (i + 1074).toNat + 1 := by omega
    rw [this, Nat.pow_succ, Nat.mul_comm]
  refine (fop_FR .mul w _ _).of_some ?_
  rw [mul_two l1 (by rw [r1]; exact (pw_lt h1 (by omega)).1) (by rw [r1, hd]; exact (pw_lt (by omega) (by omega)).1), r1, n1, hd]
  rfl
theorem pw_halve {i : Int} (h1 : -1073 ≤ i) (h2 : i ≤ 1023) (w : World) : fop .quo w (pw i) 4611686018427387904 = pw (i - 1) := by
  obtain ⟨r1, n1, l1⟩ := pw_rung (show -1074 ≤ i by omega) h2
  obtain ⟨r2, n2, l2⟩ := pw_rung (show -1074 ≤ i - 1 by omega) (show i - 1 ≤ 1023 by omega)
  refine (fop_FR .quo w _ _).of_some (quo_two l2 (by rw [r2]; exact (pw_lt (by omega) (by omega)).1) (by rw [r1]; exact (pw_lt (by omega) h2).1) (by rw [n1, n2]) ?_)
  rw [r1, r2, pw_mag (by omega) h2, pw_mag (by omega) (by omega)]
  have : (i + 1074).toNat = (i - 1 + 1074).toNat + 1 := by omega
  rw [this, Nat.pow_succ, Nat.mul_comm]
theorem pw_zero : pw 0 = 4607182418800017408 := by decide
/-- A subnormal power scaled by 2^52. -/
theorem pw_scale {i : Int} (h1 : -1074 ≤ i) (h2 : i < -1022) (w : World) : fop .mul w (pw i) 4841369599423283200 = pw (i + 52) := by
  obtain ⟨r1, n1, l1⟩ := pw_rung h1 (show i ≤ 1023 by omega)
  obtain ⟨r2, n2, l2⟩ := pw_rung (show -1074 ≤ i + 52 by omega) (show i + 52 ≤ 1023 by omega)
  have hf : rung (pw i) < infR := by rw [r1]; exact (pw_lt h1 (by omega)).1
  have e52 : double.read 4841369599423283200 = .number false (2 ^ 52) 0 := by decide
  refine (fop_FR .mul w _ _).of_some ?_
  rw [fb_mul, e52]
  obtain ⟨m, k, e, hm, _⟩ := read_fin hf
  rw [e]
  simp only [Datum.product, Option.map_some, Option.some.injEq]
  rw [write_number, n1, rnd_exact (r := pw (i + 52)) (a := k) (b := 0) (pw_lt (by omega) (by omega)).1 ?_ (by omega)]
  · rfl
  · rw [pw_mag (by omega) (by omega), Nat.pow_zero, Nat.mul_one]
    have : (i + 52 + 1074).toNat = (i + 1074).toNat + 52 := by omega
    rw [this, Nat.pow_add, ← pw_mag h1 (by omega), ← r1, ← hm]
    ac_rfl
/-- What frexp reads off a normal power of two. -/
theorem pw_ex {i : Int} (h1 : -1022 ≤ i) (h2 : i ≤ 1023) : (ex (pw i) : Int) = i + 1023 := by
  unfold ex
  rw [(pw_rung (by omega) h2).1]
  unfold pw
  rw [if_pos h1, Nat.mul_div_cancel _ (by decide)]
  omega
theorem pw_frac {i : Int} (h1 : -1022 ≤ i) (h2 : i ≤ 1023) : bits .or .u64 (bits .andNot .u64 (pw i : Int) 9218868437227405312) 4602678819172646912 = 4602678819172646912 := by
  have hl := (pw_rung (show -1074 ≤ i by omega) h2).2.2
  have e := u64_andNot_nat (pw i) 9218868437227405312 (by omega) (by decide)
  have ec : ((9218868437227405312 : Nat) : Int) = 9218868437227405312 := rfl
  rw [ec] at e
  rw [e]
  have hz : pw i &&& (18446744073709551615 - 9218868437227405312) = 0 := by
    unfold pw
    rw [if_pos h1]
    obtain ⟨n, hn, e2⟩ : ∃ n : Nat, n < 2048 ∧ (i + 1023).toNat = n := ⟨_, by omega, rfl⟩
    rw [e2]
    apply Nat.eq_of_testBit_eq
    intro j
    rw [Nat.testBit_and, Nat.zero_testBit, Nat.testBit_mul_two_pow]
    by_cases hj : j < 52
    · have : ¬ 52 ≤ j := by omega
      simp [this]
    · by_cases hj2 : j < 63
      · have : (18446744073709551615 - 9218868437227405312 : Nat).testBit j = false := by
          have hh : ∀ q : Fin 63, 52 ≤ q.val → (18446744073709551615 - 9218868437227405312 : Nat).testBit q.val = false := by decide
          exact hh ⟨j, hj2⟩ (by show 52 ≤ j; omega)
        rw [this, Bool.and_false]
      · have : n.testBit (j - 52) = false := Nat.testBit_lt_two_pow (Nat.lt_of_lt_of_le hn (show 2 ^ 11 ≤ 2 ^ (j - 52) from Nat.pow_le_pow_right (by decide) (by omega)))
        rw [this]; simp
  rw [hz]
  decide
theorem pw_key {i : Int} (h1 : -1074 ≤ i) (h2 : i ≤ 1023) : key (pw i) = (pw i : Int) ∧ nan (pw i) = false := by
  obtain ⟨r, n, _⟩ := pw_rung h1 h2
  refine ⟨by unfold key; rw [r, n]; rfl, not_nan (by rw [r]; exact Nat.le_of_lt (pw_lt h1 h2).1)⟩

theorem pw_abs {i : Int} (h1 : -1074 ≤ i) (h2 : i ≤ 1023) : bits .andNot .u64 (pw i : Int) 9223372036854775808 = (pw i : Int) := by
  obtain ⟨hl, _⟩ := pw_lt h1 h2
  unfold infR at hl
  have e := u64_andNot_nat (pw i) 9223372036854775808 (by omega) (by decide)
  have ec : ((9223372036854775808 : Nat) : Int) = 9223372036854775808 := rfl
  rw [ec] at e
  rw [e]
  have : pw i &&& (18446744073709551615 - 9223372036854775808) = pw i % 2 ^ 63 := Nat.and_two_pow_sub_one_eq_mod _ 63
  rw [this, Nat.mod_eq_of_lt (by omega)]
theorem pw_small {i : Int} (h1 : -1074 ≤ i) (h2 : i ≤ 1023) : (pw i < 4503599627370496 ↔ i < -1022) := by
  unfold pw
  split
  · omega
  · have hl : 2 ^ (i + 1074).toNat < 2 ^ 52 := Nat.pow_lt_pow_right (by decide) (by omega)
    constructor
    · intro _; omega
    · intro _; exact hl

end Go.Fl
