/- Whole and fractional parts of a float64 word; what ceiling, floor, truncation and rounding half away from zero give. No program in sight. -/
import Derived.Test.YtgaodnflifkaiaaDoorF64D
import Derived.Test.YtgaodnflifkaiaaDoorF64S
namespace Go.Fl
open Ieee
set_option linter.unusedVariables false
set_option linter.unusedSimpArgs false

/-- One, in units of the least place. -/
def U : Nat := 2 ^ 1074
theorem U_pow {e : Nat} (h : e = 1074) : U = 2 ^ e := by subst h; rfl
theorem U_pos : 0 < U := by
  obtain ⟨E, hE⟩ : ∃ E : Nat, E = 1074 := ⟨_, rfl⟩
  rw [U_pow hE]; exact Nat.two_pow_pos E
/-- The whole part of the magnitude, and the rest in units. -/
def tr (x : Nat) : Nat := mag (rung x) / U
def rs (x : Nat) : Nat := mag (rung x) % U
theorem tr_rs (x : Nat) : tr x * U + rs x = mag (rung x) := by unfold tr rs; rw [Nat.mul_comm]; exact Nat.div_add_mod _ _
theorem rs_lt (x : Nat) : rs x < U := Nat.mod_lt _ U_pos

theorem cut_low (n d : Nat) : n / 1 <<< min d (n.log2 + 2) = n / 2 ^ d ∧ ((n % 1 <<< min d (n.log2 + 2) != 0) = (n % 2 ^ d != 0)) := by
  rw [Nat.one_shiftLeft]
  by_cases h : d ≤ n.log2 + 2
  · rw [Nat.min_eq_left h]; exact ⟨rfl, rfl⟩
  · rw [Nat.min_eq_right (by omega)]
    have h1 : n < 2 ^ (n.log2 + 1) := Nat.lt_log2_self
    have h2 : n < 2 ^ (n.log2 + 2) := Nat.lt_of_lt_of_le h1 (Nat.pow_le_pow_right (by decide) (by omega))
    have h3 : n < 2 ^ d := Nat.lt_of_lt_of_le h1 (Nat.pow_le_pow_right (by decide) (by omega))
    rw [Nat.div_eq_of_lt h2, Nat.div_eq_of_lt h3, Nat.mod_eq_of_lt h2, Nat.mod_eq_of_lt h3]
    exact ⟨rfl, rfl⟩

/-- What is left over when a finite word is made whole. -/
theorem parts {x m k : Nat} (hm : m * 2 ^ k = mag (rung x)) : (m <<< (-1074 + (k : Int)).toNat) / 2 ^ (-(-1074 + (k : Int))).toNat = tr x ∧ (((m <<< (-1074 + (k : Int)).toNat) % 2 ^ (-(-1074 + (k : Int))).toNat != 0) = (rs x != 0)) := by
  obtain ⟨E, hE⟩ : ∃ E : Nat, E = 1074 := ⟨_, rfl⟩
  unfold tr rs
  rw [← hm, U_pow hE, Nat.shiftLeft_eq]
  by_cases h : E ≤ k
  · have e1 : (-1074 + (k : Int)).toNat = k - E := by omega
    have e2 : (-(-1074 + (k : Int))).toNat = 0 := by omega
    obtain ⟨c, hc⟩ : ∃ c, k = c + E := ⟨k - E, by omega⟩
    rw [e1, e2, hc, Nat.add_sub_cancel, Nat.pow_add, ← Nat.mul_assoc, Nat.mul_div_cancel _ (Nat.two_pow_pos E), Nat.mul_mod_left]
    simp [Nat.mod_one]
  · have e1 : (-1074 + (k : Int)).toNat = 0 := by omega
    obtain ⟨c, hc⟩ : ∃ c, E = c + k := ⟨E - k, by omega⟩
    have e2 : (-(-1074 + (k : Int))).toNat = c := by omega
    rw [e1, e2, hc, Nat.pow_add, Nat.pow_zero, Nat.mul_one, Nat.mul_div_mul_right _ _ (Nat.two_pow_pos k), Nat.mul_mod_mul_right]
    refine ⟨rfl, ?_⟩
    have hp := Nat.two_pow_pos k
    cases hz : m % 2 ^ c with
    | zero => simp
    | succ z =>
      have : (z + 1) * 2 ^ k ≠ 0 := Nat.mul_ne_zero (by omega) (by omega)
      have h1 : ((z + 1) * 2 ^ k != 0) = true := by simpa using this
      rw [h1]; rfl

def ceilM (x : Nat) : Nat := tr x + (!neg x && (rs x != 0)).toNat
def floorM (x : Nat) : Nat := tr x + (neg x && (rs x != 0)).toNat
theorem integral_up {x : Nat} (h : rung x < infR) : (double.read x).integral .up = .number (neg x) (ceilM x) 0 := by
  obtain ⟨m, k, e, hm, _⟩ := read_fin h
  rw [e]
  obtain ⟨h1, h2⟩ := parts hm
  obtain ⟨g1, g2⟩ := cut_low (m <<< (-1074 + (k : Int)).toNat) (-(-1074 + (k : Int))).toNat
  simp only [Datum.integral, Toward.cut, ceilM, g1, g2, h1, h2]
theorem integral_down {x : Nat} (h : rung x < infR) : (double.read x).integral .down = .number (neg x) (floorM x) 0 := by
  obtain ⟨m, k, e, hm, _⟩ := read_fin h
  rw [e]
  obtain ⟨h1, h2⟩ := parts hm
  obtain ⟨g1, g2⟩ := cut_low (m <<< (-1074 + (k : Int)).toNat) (-(-1074 + (k : Int))).toNat
  simp only [Datum.integral, Toward.cut, floorM, g1, g2, h1, h2]
theorem toInt_zero {x : Nat} (h : rung x < infR) : (double.read x).toInt .zero = some (if neg x then -(tr x : Int) else (tr x : Int)) := by
  obtain ⟨m, k, e, hm, _⟩ := read_fin h
  rw [e]
  obtain ⟨h1, h2⟩ := parts hm
  obtain ⟨g1, g2⟩ := cut_low (m <<< (-1074 + (k : Int)).toNat) (-(-1074 + (k : Int))).toNat
  have e2 : signed (neg x) (tr x) 0 = if neg x then -(tr x : Int) else (tr x : Int) := by rw [signed_eq]; simp
  rw [← e2]
  simp only [Datum.toInt, Datum.integral, Toward.cut, g1, h1]
  rfl

/-- The word of a whole number with a sign. -/
def iw (s : Bool) (n : Nat) : Nat := double.write (.number s n 0)
theorem iw_is (s : Bool) {n : Nat} (h : n ≤ 2 ^ 53) : Is (iw s n) s n 0 := is_write s n 0 h (by omega) (by omega)
theorem iw_lt (s : Bool) (n : Nat) : iw s n < 2 ^ 64 := double.write_lt _
theorem iw_not_nan (s : Bool) (n : Nat) : nan (iw s n) = false := nan_write_number s n 0
theorem zero_toNat : ((0 : Int) + 1074).toNat = 1074 := rfl
theorem iw_mag (s : Bool) {n : Nat} (h : n ≤ 2 ^ 53) : mag (rung (iw s n)) = n * U := by
  rw [(iw_is s h).eq, U_pow zero_toNat]
/-- A whole number's own word. -/
theorem iw_self {x : Nat} (hx : x < 2 ^ 64) (h : rung x < infR) (hr : rs x = 0) : iw (neg x) (tr x) = x := by
  obtain ⟨E, hE⟩ : ∃ E : Nat, E = 1074 := ⟨_, rfl⟩
  unfold iw
  rw [write_number, rnd_exact (r := rung x) (a := E) (b := 0) h ?_ (by omega), wd_self hx]
  have := tr_rs x
  rw [hr, Nat.add_zero] at this
  rw [← this, U_pow hE, Nat.pow_zero, Nat.mul_one]
theorem foi_iw (n : Int) : floatOfInt .f64 n = iw (decide (n < 0)) n.natAbs := rfl
theorem iw_zero (s : Bool) : iw s 0 = wd s 0 := by unfold iw; rw [write_number, rnd_zero]

/-- Below 2^52 and above. -/
theorem small_iff (x : Nat) (hn : nan x = false) : rung x < 4841369599423283200 ↔ (key x < 4841369599423283200 ∧ -4841369599423283200 < key x) := by
  unfold key; cases neg x <;> simp <;> omega
theorem mag_52 : mag 4841369599423283200 = 2 ^ 52 * U := by
  obtain ⟨E, hE⟩ : ∃ E : Nat, E = 1074 := ⟨_, rfl⟩
  rw [U_pow hE]
  unfold mag
  rw [if_neg (by decide)]
  have e1 : (2 ^ 52 + 4841369599423283200 % 2 ^ 52) = 2 ^ 52 := by decide
  have e2 : 4841369599423283200 / 2 ^ 52 - 1 = E := by rw [hE]
  rw [e1, e2]
theorem tr_small {x : Nat} (h : rung x < 4841369599423283200) : tr x < 2 ^ 52 := by
  have := mag_lt h
  rw [mag_52] at this
  unfold tr
  exact Nat.div_lt_of_lt_mul (by rw [Nat.mul_comm]; exact this)
/-- From 2^52 on every number is whole. -/
theorem rs_large {x : Nat} (hf : rung x < infR) (h : ¬ rung x < 4841369599423283200) : rs x = 0 := by
  obtain ⟨E, hE⟩ : ∃ E : Nat, E = 1074 := ⟨_, rfl⟩
  unfold rs mag
  rw [if_neg (by omega), U_pow hE]
  have : ∃ c, rung x / 2 ^ 52 - 1 = c + E := ⟨rung x / 2 ^ 52 - 1 - E, by omega⟩
  obtain ⟨c, hc⟩ := this
  rw [hc, Nat.pow_add, ← Nat.mul_assoc, Nat.mul_mod_left]

/-- Rounded half away from zero. -/
def roundM (x : Nat) : Nat := tr x + (decide (U ≤ 2 * rs x)).toNat

/-- The words that ceiling, floor and rounding give for a finite number. -/
def ceilW (x : Nat) : Nat := iw (neg x) (ceilM x)
def floorW (x : Nat) : Nat := iw (neg x) (floorM x)
def roundW (x : Nat) : Nat := iw (neg x) (roundM x)

theorem ceilM_le {x : Nat} (h : rung x < 4841369599423283200) : ceilM x ≤ 2 ^ 52 := by
  have := tr_small h
  have h2 : (!neg x && (rs x != 0)).toNat ≤ 1 := by cases (!neg x && (rs x != 0)) <;> decide
  unfold ceilM; omega
theorem floorM_le {x : Nat} (h : rung x < 4841369599423283200) : floorM x ≤ 2 ^ 52 := by
  have := tr_small h
  have h2 : (neg x && (rs x != 0)).toNat ≤ 1 := by cases (neg x && (rs x != 0)) <;> decide
  unfold floorM; omega
theorem roundM_le {x : Nat} (h : rung x < 4841369599423283200) : roundM x ≤ 2 ^ 52 := by
  have := tr_small h
  have h2 : (decide (U ≤ 2 * rs x)).toNat ≤ 1 := by cases (decide (U ≤ 2 * rs x)) <;> decide
  unfold roundM; omega
theorem whole_same {x : Nat} (hr : rs x = 0) : ceilM x = tr x ∧ floorM x = tr x ∧ roundM x = tr x := by
  unfold ceilM floorM roundM
  rw [hr]
  have := U_pos
  simp
  omega

/-- The truncated integer and its float. -/
def ti (x : Nat) : Int := if neg x then -(tr x : Int) else (tr x : Int)
theorem ti_abs (x : Nat) : (ti x).natAbs = tr x := by unfold ti; split <;> omega
theorem val_eq (x : Nat) : val x = if neg x then -((tr x : Int) * U + rs x) else (tr x : Int) * U + rs x := by
  unfold val; rw [← tr_rs x]; push_cast; rfl
theorem val_foi {n : Int} (h : n.natAbs ≤ 2 ^ 53) : val (floatOfInt .f64 n) = n * U := by
  rw [(is_int n h).val, signed_one, U_pow zero_toNat, Int.natCast_pow]; rfl
theorem val_iw (s : Bool) {n : Nat} (h : n ≤ 2 ^ 53) : val (iw s n) = if s then -((n : Int) * U) else (n : Int) * U := by
  unfold val
  rw [(iw_is s h).sg, iw_mag s h]; push_cast; rfl

end Go.Fl
