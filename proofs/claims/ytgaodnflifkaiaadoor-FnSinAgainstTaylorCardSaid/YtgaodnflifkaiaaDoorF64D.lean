/- Products and quotients by one, minus one, two, by itself; differences with itself; products of integers. No program in sight. -/
import Derived.Test.YtgaodnflifkaiaaDoorF64C
namespace Go.Fl
open Ieee
set_option linter.unusedVariables false
set_option linter.unusedSimpArgs false

theorem read_one : double.read 4607182418800017408 = .number false (2 ^ 52) (-52) := by decide
theorem read_negone : double.read 13830554455654793216 = .number true (2 ^ 52) (-52) := by decide
theorem read_two : double.read 4611686018427387904 = .number false (2 ^ 52) (-51) := by decide

theorem not_nan_cases {x : Nat} (h : nan x = false) : rung x = infR ∨ rung x < infR := by
  rcases cases_word x with h' | h' | h'
  · rw [h] at h'; cases h'
  · exact .inl h'
  · exact .inr h'

theorem mul_unit {x y : Nat} {s : Bool} (hx : x < 2 ^ 64) (hn : nan x = false) (hy : double.read y = .number s (2 ^ 52) (-52)) : floatBits .mul .f64 x y = some (wd (neg x ^^ s) (rung x)) := by
  rw [fb_mul, hy]
  rcases not_nan_cases hn with h | h
  · rw [read_inf h]
    simp only [Datum.product]
    rw [if_neg (by decide)]
    simp only [Option.map_some, write_inf, h]
  · obtain ⟨m, k, e, hi, _⟩ := is_self hx h
    rw [e]
    simp only [Datum.product, Option.map_some, Option.some.injEq]
    rw [write_number, rnd_exact (r := rung x) (a := k) (b := 52) h ?_ (by omega)]
    rw [hi.eq]
    have : (-1074 + (k : Int) + 1074).toNat = k := by omega
    rw [this]
    ac_rfl
theorem mul_one {x : Nat} (hx : x < 2 ^ 64) (hn : nan x = false) : floatBits .mul .f64 x 4607182418800017408 = some x := by
  rw [mul_unit hx hn read_one, Bool.xor_false, wd_self hx]
theorem mul_negone {x : Nat} (hx : x < 2 ^ 64) (hn : nan x = false) : floatBits .mul .f64 x 13830554455654793216 = some (Op.negFloat .f64 x) := by
  rw [mul_unit hx hn read_negone, Bool.xor_true, negFloat_eq hx]
theorem mul_nan {x y : Nat} (h : nan x = true) : floatBits .mul .f64 x y = none := by
  rw [fb_mul, product_nan_left h]; rfl
theorem quo_nan {x y : Nat} (h : nan x = true) : floatBits .quo .f64 x y = none := by
  rw [fb_quo, quotient_nan_left h]; rfl

/-- Twice a number's rung. -/
def dbl (r : Nat) : Nat := if r < 2 ^ 52 then 2 * r else r + 2 ^ 52
theorem mag_dbl (r : Nat) : mag (dbl r) = 2 * mag r := by
  unfold dbl mag
  by_cases h1 : r < 2 ^ 52
  · rw [if_pos h1, if_pos h1]
    by_cases h2 : 2 * r < 2 ^ 52
    · rw [if_pos h2]
    · have e1 : 2 * r / 2 ^ 52 - 1 = 0 := by omega
      have e2 : 2 ^ 52 + 2 * r % 2 ^ 52 = 2 * r := by omega
      rw [if_neg h2, e1, e2]; omega
  · rw [if_neg h1, if_neg h1, if_neg (by omega)]
    have e1 : (r + 2 ^ 52) / 2 ^ 52 - 1 = (r / 2 ^ 52 - 1) + 1 := by omega
    have e2 : (r + 2 ^ 52) % 2 ^ 52 = r % 2 ^ 52 := by omega
    have e3 : ∀ k : Nat, 2 ^ (k + 1) = 2 * 2 ^ k := fun k => by rw [Nat.pow_succ, Nat.mul_comm]
    rw [e1, e2, e3 (r / 2 ^ 52 - 1)]
    generalize 2 ^ (r / 2 ^ 52 - 1) = a
    rw [Nat.mul_left_comm]

theorem mul_two {x : Nat} (hx : x < 2 ^ 64) (h : rung x < infR) (hd : dbl (rung x) < infR) : floatBits .mul .f64 x 4611686018427387904 = some (wd (neg x) (dbl (rung x))) := by
  rw [fb_mul, read_two]
  obtain ⟨m, k, e, hi, _⟩ := is_self hx h
  rw [e]
  simp only [Datum.product, Option.map_some, Option.some.injEq]
  rw [write_number, Bool.xor_false, rnd_exact (r := dbl (rung x)) (a := k) (b := 51) hd ?_ (by omega)]
  rw [mag_dbl, hi.eq]
  have : (-1074 + (k : Int) + 1074).toNat = k := by omega
  rw [this]
  have e3 : (2 : Nat) ^ 52 = 2 * 2 ^ 51 := by decide
  rw [e3]
  generalize (2 : Nat) ^ 51 = a
  ac_rfl

theorem quo_two {x d : Nat} (hx : x < 2 ^ 64) (h : rung x < infR) (hd : rung d < infR) (hs : neg d = neg x) (hm : mag (rung d) = 2 * mag (rung x)) : floatBits .quo .f64 d 4611686018427387904 = some x := by
  rw [fb_quo, read_two]
  obtain ⟨m, k, e, hmk, hm53, _, _⟩ := read_fin hd
  rw [e]
  simp only [Datum.quotient]
  rw [if_neg (by decide)]
  simp only [Option.map_some, Option.some.injEq]
  have l52 : ((2 : Nat) ^ 52).log2 = 52 := log2_of (by decide) (by decide)
  rw [l52]
  have hlog : m.log2 ≤ 52 := by
    by_cases h0 : m = 0
    · rw [h0]; decide
    · have : m.log2 < 53 := (Nat.log2_lt h0).2 hm53
      omega
  obtain ⟨c, hc⟩ : ∃ c : Nat, 54 + 52 - m.log2 = c + 52 := ⟨54 - m.log2, by omega⟩
  rw [hc, Nat.shiftLeft_eq, Nat.pow_add, ← Nat.mul_assoc, Nat.mul_div_cancel _ (Nat.two_pow_pos 52), Nat.mul_mod_left]
  rw [write_number, Bool.xor_false, rnd_exact (r := rung x) (a := k + 50) (b := c + 52) h ?_ (by push_cast; omega), hs, wd_self hx]
  have hk : m * 2 ^ k = 2 * mag (rung x) := by rw [hmk, hm]
  have e0 : ((0 : Nat) != 0).toNat = 0 := rfl
  rw [e0, Nat.add_zero]
  apply Nat.eq_of_mul_eq_mul_left (show 0 < 2 by decide)
  calc 2 * (2 * (m * 2 ^ c) * 2 ^ (k + 50)) = (m * 2 ^ k) * (2 ^ c * 2 ^ 52) := by
        rw [show k + 50 = k + 50 from rfl, Nat.pow_add, show (2 : Nat) ^ 52 = 2 * 2 * 2 ^ 50 by decide]
        generalize (2 : Nat) ^ 50 = A
        generalize (2 : Nat) ^ c = B
        generalize (2 : Nat) ^ k = C
        ac_rfl
    _ = 2 * (mag (rung x) * 2 ^ (c + 52)) := by rw [hk, Nat.pow_add, Nat.mul_assoc]

theorem one_is : Is 4607182418800017408 false 1 0 := by
  have := is_write false 1 0 (by decide) (by decide) (by decide)
  have e : double.write (.number false 1 0) = 4607182418800017408 := by decide
  rwa [e] at this

/-- A finite number that is not zero, by itself. -/
theorem quo_self {x : Nat} (h : rung x < infR) (h0 : rung x ≠ 0) : floatBits .quo .f64 x x = some 4607182418800017408 := by
  rw [fb_quo]
  obtain ⟨m, k, e, hmk, _⟩ := read_fin h
  have hm0 : m ≠ 0 := by
    intro hm
    rw [hm, Nat.zero_mul] at hmk
    exact h0 (mag_inj (hmk.symm.trans mag_zero.symm))
  rw [e]
  simp only [Datum.quotient]
  rw [if_neg hm0]
  simp only [Option.map_some, Option.some.injEq, Bool.xor_self]
  rw [Nat.add_sub_cancel, Nat.shiftLeft_eq, Nat.mul_div_cancel_left _ (Nat.pos_of_ne_zero hm0), Nat.mul_mod_right]
  obtain ⟨A, hA⟩ : ∃ A : Nat, A = 1019 := ⟨_, rfl⟩
  refine write_is one_is (a := A) (b := 0) ?_ (by omega)
  have e0 : ((0 : Nat) != 0).toNat = 0 := rfl
  have e1 : ((0 : Int) + 1074).toNat = A + 55 := by omega
  rw [e0, Nat.add_zero, e1, Nat.pow_add, show (2 : Nat) ^ 55 = 2 * 2 ^ 54 by decide]
  generalize (2 : Nat) ^ A = B
  generalize (2 : Nat) ^ 54 = C
  simp [Nat.mul_comm]
theorem quo_self_none {x : Nat} (h : nan x = true ∨ rung x = infR ∨ rung x = 0) : floatBits .quo .f64 x x = none := by
  rw [fb_quo]
  rcases h with h | h | h
  · rw [quotient_nan_left h]; rfl
  · rw [read_inf h]; rfl
  · rw [read_eq, if_pos (by rw [h]; decide), h]; rfl
/-- A finite number less itself. -/
theorem sub_self_fin {x : Nat} (hx : x < 2 ^ 64) (h : rung x < infR) : floatBits .sub .f64 x x = some 0 := by
  rw [sub_is_add hx]
  have hv : val x + val (Op.negFloat .f64 x) = 0 := by
    unfold val; rw [rung_neg hx, neg_neg hx]; cases neg x <;> simp <;> omega
  have z : val 0 = 0 := by decide
  refine add_exact h (by rw [rung_neg hx]; exact h) (by decide) (by decide) (by rw [hv, z]) ?_
  rw [z, if_pos rfl, neg_neg hx]
  cases neg x <;> rfl
theorem sub_self_inf {x : Nat} (hx : x < 2 ^ 64) (h : nan x = true ∨ rung x = infR) : floatBits .sub .f64 x x = none := by
  rw [sub_is_add hx, add_none_iff]
  rcases h with h | h
  · exact .inl h
  · right; right
    rw [rung_neg hx, neg_neg hx]
    refine ⟨h, h, ?_⟩
    cases neg x <;> simp

theorem signed_mul (i j : Int) (k : Nat) : signed (decide (i < 0) ^^ decide (j < 0)) (i.natAbs * j.natAbs) k = i * j * 2 ^ k := by
  rw [signed_eq]
  have hi : i = if i < 0 then -(i.natAbs : Int) else (i.natAbs : Int) := by split <;> omega
  have hj : j = if j < 0 then -(j.natAbs : Int) else (j.natAbs : Int) := by split <;> omega
  by_cases h1 : i < 0 <;> by_cases h2 : j < 0 <;> simp only [h1, h2, if_true, if_false, decide_true, decide_false] at hi hj ⊢
  all_goals
    conv => rhs; rw [hi, hj]
    push_cast
    simp [Int.neg_mul, Int.mul_neg]
theorem signed_one (i : Int) (k : Nat) : signed (decide (i < 0)) i.natAbs k = i * 2 ^ k := by
  have := signed_mul i 1 k
  simpa using this
/-- The product of two small integers, as a value. -/
theorem mul_ints {i j : Int} (hi : i.natAbs ≤ 2 ^ 26) (hj : j.natAbs ≤ 2 ^ 26) : ∃ z, floatBits .mul .f64 (floatOfInt .f64 i) (floatOfInt .f64 j) = some z ∧ nan z = false ∧ key z = key (floatOfInt .f64 (i * j)) := by
  have hm : i.natAbs * j.natAbs ≤ 2 ^ 26 * 2 ^ 26 := Nat.mul_le_mul hi hj
  have hm' : i.natAbs * j.natAbs ≤ 2 ^ 53 := Nat.le_trans hm (by decide)
  have ii := is_int i (by omega)
  have ij := is_int j (by omega)
  obtain ⟨z, hz, hzi⟩ := ii.mul ij hm' (by omega) (by omega)
  have ip := is_int (i * j) (by rw [Int.natAbs_mul]; exact hm')
  refine ⟨z, hz, hzi.not_nan, ?_⟩
  rw [← val_eq_iff, hzi.val, ip.val, signed_mul, signed_one]
  rfl

end Go.Fl
