/- Plain facts on the sum, the product, the quotient of two float64 words as the model has them. No program in sight. -/
import Derived.Test.YtgaodnflifkaiaaDoorF64B
namespace Go.Fl
open Ieee

/-- 'r' is what the operation may give: its exact result rounded, or some NaN where there is none. -/
def FR (op : BinOp) (x y r : Nat) : Prop := r < 2 ^ 64 ∧ (∀ z, floatBits op .f64 x y = some z → r = z) ∧ (floatBits op .f64 x y = none → nan r = true)

theorem FR.of_some {op : BinOp} {x y r z : Nat} (h : FR op x y r) (hz : floatBits op .f64 x y = some z) : r = z := h.2.1 z hz
theorem FR.of_none {op : BinOp} {x y r : Nat} (h : FR op x y r) (hz : floatBits op .f64 x y = none) : nan r = true := h.2.2 hz
theorem FR.lt {op : BinOp} {x y r : Nat} (h : FR op x y r) : r < 2 ^ 64 := h.1

theorem fb_add (x y : Nat) : floatBits .add .f64 x y = ((double.read x).sum (double.read y)).map double.write := rfl
theorem fb_sub (x y : Nat) : floatBits .sub .f64 x y = ((double.read x).sum (double.read y).opposite).map double.write := rfl
theorem fb_mul (x y : Nat) : floatBits .mul .f64 x y = ((double.read x).product (double.read y)).map double.write := rfl
theorem fb_quo (x y : Nat) : floatBits .quo .f64 x y = ((double.read x).quotient 54 (double.read y)).map double.write := rfl

theorem sub_is_add {x y : Nat} (hy : y < 2 ^ 64) : floatBits .sub .f64 x y = floatBits .add .f64 x (Op.negFloat .f64 y) := by
  rw [fb_sub, fb_add, read_neg hy]

theorem sum_nan_left {x y : Nat} (h : nan x = true) : (double.read x).sum (double.read y) = none := by
  obtain ⟨t, e⟩ := read_nan h; rw [e]; cases double.read y <;> rfl
theorem sum_nan_right {x y : Nat} (h : nan y = true) : (double.read x).sum (double.read y) = none := by
  obtain ⟨t, e⟩ := read_nan h; rw [e]; cases double.read x <;> rfl
theorem product_nan_left {x y : Nat} (h : nan x = true) : (double.read x).product (double.read y) = none := by
  obtain ⟨t, e⟩ := read_nan h; rw [e]; cases double.read y <;> rfl
theorem product_nan_right {x y : Nat} (h : nan y = true) : (double.read x).product (double.read y) = none := by
  obtain ⟨t, e⟩ := read_nan h; rw [e]; cases double.read x <;> rfl
theorem quotient_nan_left {x y : Nat} (h : nan x = true) : (double.read x).quotient 54 (double.read y) = none := by
  obtain ⟨t, e⟩ := read_nan h; rw [e]; cases double.read y <;> rfl
theorem quotient_nan_right {x y : Nat} (h : nan y = true) : (double.read x).quotient 54 (double.read y) = none := by
  obtain ⟨t, e⟩ := read_nan h; rw [e]; cases double.read x <;> rfl

theorem nan_wd_rnd (s : Bool) (m : Nat) (p : Int) : nan (wd s (rnd m p)) = false := by
  apply not_nan; rw [rung_wd _ (rnd_lt m p)]; exact rnd_le m p
theorem nan_wd_inf (s : Bool) : nan (wd s infR) = false := by
  apply not_nan; rw [rung_wd _ infR_lt]; exact Nat.le_refl _
theorem nan_write_number (s : Bool) (m : Nat) (p : Int) : nan (double.write (.number s m p)) = false := by rw [write_number]; exact nan_wd_rnd s m p
theorem nan_write_inf (s : Bool) : nan (double.write (.infinity s)) = false := by rw [write_inf]; exact nan_wd_inf s

/-- When a sum is a NaN. -/
theorem add_none_iff (x y : Nat) : floatBits .add .f64 x y = none ↔ (nan x = true ∨ nan y = true ∨ (rung x = infR ∧ rung y = infR ∧ neg x ≠ neg y)) := by
  rw [fb_add, Option.map_eq_none_iff]
  rcases cases_word x with hx | hx | hx
  · simp [sum_nan_left hx, hx]
  · have nx : nan x = false := not_nan (by omega)
    rcases cases_word y with hy | hy | hy
    · simp [sum_nan_right hy, hy]
    · have ny : nan y = false := not_nan (by omega)
      rw [read_inf hx, read_inf hy]
      simp only [Datum.sum]
      by_cases hs : neg x = neg y <;> simp [hs, nx, ny, hx, hy]
    · have ny : nan y = false := not_nan (by omega)
      obtain ⟨m, k, e, _⟩ := read_fin hy
      rw [read_inf hx, e]
      simp only [Datum.sum]
      have : rung y ≠ infR := by omega
      simp [nx, ny, this]
  · have nx : nan x = false := not_nan (by omega)
    obtain ⟨m, k, e, _⟩ := read_fin hx
    have hxi : rung x ≠ infR := by omega
    rcases cases_word y with hy | hy | hy
    · simp [sum_nan_right hy, hy]
    · have ny : nan y = false := not_nan (by omega)
      rw [read_inf hy, e]
      simp [Datum.sum, nx, ny, hxi]
    · have ny : nan y = false := not_nan (by omega)
      obtain ⟨m', k', e', _⟩ := read_fin hy
      rw [e, e']
      simp [Datum.sum, nx, ny, hxi]

theorem nan_of_add_some {x y z : Nat} (h : floatBits .add .f64 x y = some z) : nan z = false := by
  rw [fb_add] at h
  cases hs : (double.read x).sum (double.read y) with
  | none => rw [hs] at h; cases h
  | some d =>
    rw [hs] at h
    simp only [Option.map_some, Option.some.injEq] at h
    subst h
    cases d with
    | number s m p => exact nan_write_number s m p
    | infinity s => exact nan_write_inf s
    | nan s t =>
      exfalso
      revert hs
      cases double.read x <;> cases double.read y <;> simp [Datum.sum] <;> (try split) <;> simp
theorem FR.add_nan {x y r : Nat} (h : FR .add x y r) : nan r = true ↔ (nan x = true ∨ nan y = true ∨ (rung x = infR ∧ rung y = infR ∧ neg x ≠ neg y)) := by
  rw [← add_none_iff]
  cases hz : floatBits .add .f64 x y with
  | none => simp [h.of_none hz]
  | some z => rw [h.of_some hz, nan_of_add_some hz]; simp

/-- Two results of one operation are the same, or both are NaNs. -/
def same (x y : Nat) : Prop := x = y ∨ (nan x = true ∧ nan y = true)
theorem FR.same {op : BinOp} {x y r s : Nat} (h : FR op x y r) (k : FR op x y s) : same r s := by
  cases hz : floatBits op .f64 x y with
  | none => exact .inr ⟨h.of_none hz, k.of_none hz⟩
  | some z => left; rw [h.of_some hz, k.of_some hz]

/-- The word is exactly the number 'm * 2 ^ p' with that sign. -/
structure Is (x : Nat) (s : Bool) (m : Nat) (p : Int) : Prop where
  lt : x < 2 ^ 64
  sg : neg x = s
  fin : rung x < infR
  place : -1074 ≤ p
  eq : mag (rung x) = m * 2 ^ (p + 1074).toNat

theorem exists_rung (m k : Nat) (hm : m ≤ 2 ^ 53) (hk : k ≤ 2044) : ∃ r, r < infR ∧ mag r = m * 2 ^ k := by
  by_cases h0 : m = 0
  · exact ⟨0, by decide, by rw [h0, mag_zero, Nat.zero_mul]⟩
  have h1 : 2 ^ m.log2 ≤ m := Nat.log2_self_le h0
  have h2 : m < 2 ^ (m.log2 + 1) := Nat.lt_log2_self
  have hL : m.log2 ≤ 53 := by
    have : m.log2 < 54 := (Nat.log2_lt h0).2 (by omega)
    omega
  by_cases hs : m.log2 + k < 52
  · have hlt : m * 2 ^ k < 2 ^ 52 := by
      calc m * 2 ^ k < 2 ^ (m.log2 + 1) * 2 ^ k := Nat.mul_lt_mul_of_pos_right h2 (Nat.two_pow_pos _)
        _ = 2 ^ (m.log2 + 1 + k) := by rw [← Nat.pow_add]
        _ ≤ 2 ^ 52 := Nat.pow_le_pow_right (by decide) (by omega)
    refine ⟨m * 2 ^ k, Nat.lt_trans hlt (by decide), ?_⟩
    unfold mag; rw [if_pos hlt]
  · -- digits f, place c
    obtain ⟨f, c, hf1, hf2, hfc, hc⟩ : ∃ f c : Nat, 2 ^ 52 ≤ f ∧ f < 2 ^ 53 ∧ f * 2 ^ c = m * 2 ^ k ∧ c ≤ 2045 := by
      by_cases h53 : m.log2 = 53
      · have : m = 2 ^ 53 := by rw [h53] at h1; omega
        refine ⟨2 ^ 52, k + 1, by omega, by omega, ?_, by omega⟩
        rw [this, ← Nat.pow_add, ← Nat.pow_add]; congr 1; omega
      · refine ⟨m * 2 ^ (52 - m.log2), m.log2 + k - 52, ?_, ?_, ?_, by omega⟩
        · calc 2 ^ 52 = 2 ^ m.log2 * 2 ^ (52 - m.log2) := by rw [← Nat.pow_add]; congr 1; omega
            _ ≤ _ := Nat.mul_le_mul_right _ h1
        · calc m * 2 ^ (52 - m.log2) < 2 ^ (m.log2 + 1) * 2 ^ (52 - m.log2) := Nat.mul_lt_mul_of_pos_right h2 (Nat.two_pow_pos _)
            _ = 2 ^ 53 := by rw [← Nat.pow_add]; congr 1; omega
        · rw [Nat.mul_assoc, ← Nat.pow_add]; congr 2; omega
    have e1 : (c * 2 ^ 52 + f) / 2 ^ 52 - 1 = c := by omega
    have e2 : 2 ^ 52 + (c * 2 ^ 52 + f) % 2 ^ 52 = f := by omega
    refine ⟨c * 2 ^ 52 + f, by unfold infR; omega, ?_⟩
    unfold mag
    rw [if_neg (by omega), e1, e2, hfc]

theorem Is.uniq {x y : Nat} {s : Bool} {m n : Nat} {p q : Int} (hx : Is x s m p) (hy : Is y s n q) (h : m * 2 ^ (p + 1074).toNat = n * 2 ^ (q + 1074).toNat) : x = y :=
  word_ext hx.lt hy.lt (hx.sg.trans hy.sg.symm) (mag_inj (by rw [hx.eq, hy.eq, h]))
theorem Is.not_nan {x : Nat} {s : Bool} {m : Nat} {p : Int} (hx : Is x s m p) : nan x = false := Fl.not_nan (by have := hx.fin; omega)

/-- An exact number is written as its word. -/
theorem is_write (s : Bool) (m : Nat) (p : Int) (hm : m ≤ 2 ^ 53) (h1 : -1074 ≤ p) (h2 : p ≤ 970) : Is (double.write (.number s m p)) s m p := by
  obtain ⟨r, hr, e⟩ := exists_rung m (p + 1074).toNat hm (by omega)
  have hq : rnd m p = r := rnd_exact (a := (p + 1074).toNat) (b := 0) hr (by rw [e]; simp) (by omega)
  have h63 : r < 2 ^ 63 := Nat.lt_trans hr infR_lt
  rw [write_number, hq]
  exact ⟨wd_lt _ h63, neg_wd _ h63, by rw [rung_wd _ h63]; exact hr, h1, by rw [rung_wd _ h63, e]⟩
/-- A written number whose value is that of a word, is that word. -/
theorem write_is {x : Nat} {s : Bool} {m : Nat} {p : Int} (hx : Is x s m p) {n : Nat} {q : Int} {a b : Nat} (he : n * 2 ^ a = m * 2 ^ (p + 1074).toNat * 2 ^ b) (hq : (a : Int) - b = q + 1074) : double.write (.number s n q) = x := by
  rw [write_number, rnd_exact (r := rung x) (a := a) (b := b) hx.fin (by rw [hx.eq]; exact he) hq, ← hx.sg, wd_self hx.lt]
/-- Every finite word is such a number. -/
theorem is_self {x : Nat} (hx : x < 2 ^ 64) (h : rung x < infR) : ∃ m : Nat, ∃ k : Nat, double.read x = .number (neg x) m (-1074 + (k : Int)) ∧ Is x (neg x) m (-1074 + (k : Int)) ∧ m < 2 ^ 53 ∧ k ≤ 2045 ∧ (k ≠ 0 → 2 ^ 52 ≤ m) := by
  obtain ⟨m, k, e, hm, h3, h4, h5⟩ := read_fin h
  refine ⟨m, k, e, ⟨hx, rfl, h, by omega, ?_⟩, h3, h4, h5⟩
  rw [← hm]; congr 2; omega
theorem Is.read {x : Nat} {s : Bool} {m : Nat} {p : Int} (hx : Is x s m p) : ∃ n k : Nat, double.read x = .number s n (-1074 + (k : Int)) ∧ n * 2 ^ k = m * 2 ^ (p + 1074).toNat := by
  obtain ⟨n, k, e, hn, _⟩ := read_fin hx.fin
  exact ⟨n, k, by rw [e, hx.sg], by rw [hn, hx.eq]⟩

/-- 'float64(n)' of a small integer is that integer. -/
theorem is_int (n : Int) (h : n.natAbs ≤ 2 ^ 53) : Is (floatOfInt .f64 n) (decide (n < 0)) n.natAbs 0 :=
  is_write (decide (n < 0)) n.natAbs 0 h (by omega) (by omega)

/-- An exact product. -/
theorem Is.mul {x y : Nat} {s t : Bool} {m n : Nat} {p q : Int} (hx : Is x s m p) (hy : Is y t n q) (hmn : m * n ≤ 2 ^ 53) (h1 : -1074 ≤ p + q) (h2 : p + q ≤ 970) :
    ∃ z, floatBits .mul .f64 x y = some z ∧ Is z (s ^^ t) (m * n) (p + q) := by
  obtain ⟨m', k, ex, em⟩ := hx.read
  obtain ⟨n', l, ey, en⟩ := hy.read
  have hz := is_write (s ^^ t) (m * n) (p + q) hmn h1 h2
  refine ⟨_, ?_, hz⟩
  rw [fb_mul, ex, ey]
  simp only [Datum.product, Option.map_some, Option.some.injEq]
  obtain ⟨B, hB⟩ : ∃ B : Nat, B = 1074 := ⟨_, rfl⟩
  refine write_is hz (a := k + l) (b := B) ?_ (by omega)
  have hp := hx.place
  have hq := hy.place
  calc m' * n' * 2 ^ (k + l) = (m' * 2 ^ k) * (n' * 2 ^ l) := by rw [Nat.pow_add]; ac_rfl
    _ = (m * 2 ^ (p + 1074).toNat) * (n * 2 ^ (q + 1074).toNat) := by rw [em, en]
    _ = m * n * (2 ^ (p + 1074).toNat * 2 ^ (q + 1074).toNat) := by ac_rfl
    _ = m * n * (2 ^ (p + q + 1074).toNat * 2 ^ B) := by rw [← Nat.pow_add, ← Nat.pow_add]; congr 2; omega
    _ = m * n * 2 ^ (p + q + 1074).toNat * 2 ^ B := by rw [Nat.mul_assoc (m * n)]

theorem FR.sub_add {x y r : Nat} (hy : y < 2 ^ 64) (h : FR .sub x y r) : FR .add x (Op.negFloat .f64 y) r := by
  unfold FR at *
  rw [← sub_is_add hy]; exact h

/-- A finite word's datum, its value as a signed number of units. -/
theorem read_val {x : Nat} (h : rung x < infR) : ∃ m k : Nat, double.read x = .number (neg x) m (-1074 + (k : Int)) ∧ signed (neg x) m k = val x := by
  obtain ⟨m, k, e, hm, _⟩ := read_fin h
  refine ⟨m, k, e, ?_⟩
  rw [val_of, signed_eq, signed_eq, ← hm]; push_cast; simp
/-- A sum of finite words: 'T * 2 ^ c' units, to be rounded. -/
theorem add_fin {x y : Nat} (hx : rung x < infR) (hy : rung y < infR) : ∃ (T : Int) (c : Nat), T * 2 ^ c = val x + val y ∧ floatBits .add .f64 x y = some (wd (if val x + val y = 0 then neg x && neg y else decide (val x + val y < 0)) (rnd T.natAbs (-1074 + (c : Int)))) := by
  obtain ⟨m, k, ex, hm⟩ := read_val hx
  obtain ⟨n, l, ey, hn⟩ := read_val hy
  have e1 : ((-1074 + (k : Int)) - min (-1074 + (k : Int)) (-1074 + (l : Int))).toNat + min k l = k := by omega
  have e2 : ((-1074 + (l : Int)) - min (-1074 + (k : Int)) (-1074 + (l : Int))).toNat + min k l = l := by omega
  have e3 : min (-1074 + (k : Int)) (-1074 + (l : Int)) = -1074 + ((min k l : Nat) : Int) := by omega
  refine ⟨signed (neg x) m ((-1074 + (k : Int)) - min (-1074 + (k : Int)) (-1074 + (l : Int))).toNat + signed (neg y) n ((-1074 + (l : Int)) - min (-1074 + (k : Int)) (-1074 + (l : Int))).toNat, min k l, ?_, ?_⟩
  · rw [Int.add_mul, signed_scale, signed_scale, e1, e2, hm, hn]
  · have hT : (signed (neg x) m ((-1074 + (k : Int)) - min (-1074 + (k : Int)) (-1074 + (l : Int))).toNat + signed (neg y) n ((-1074 + (l : Int)) - min (-1074 + (k : Int)) (-1074 + (l : Int))).toNat) * 2 ^ (min k l) = val x + val y := by
      rw [Int.add_mul, signed_scale, signed_scale, e1, e2, hm, hn]
    rw [fb_add, ex, ey]
    simp only [Datum.sum, Option.map_some, Option.some.injEq]
    rw [write_number]
    generalize signed (neg x) m ((-1074 + (k : Int)) - min (-1074 + (k : Int)) (-1074 + (l : Int))).toNat + signed (neg y) n ((-1074 + (l : Int)) - min (-1074 + (k : Int)) (-1074 + (l : Int))).toNat = T at hT ⊢
    have hp : (0 : Int) < 2 ^ (min k l) := Int.pow_pos (by decide)
    have z0 : T = 0 ↔ val x + val y = 0 := by
      rw [← hT]
      constructor
      · intro h; rw [h, Int.zero_mul]
      · intro h; rcases Int.mul_eq_zero.1 h with h | h
        · exact h
        · omega
    have zn : T < 0 ↔ val x + val y < 0 := by
      rw [← hT]
      constructor
      · intro h; exact Int.mul_neg_of_neg_of_pos h hp
      · intro h
        by_cases h' : T < 0
        · exact h'
        · have := Int.mul_nonneg (show 0 ≤ T by omega) (Int.le_of_lt hp); omega
    rw [e3]
    by_cases h0 : T = 0
    · rw [if_pos h0, if_pos (z0.1 h0)]
    · rw [if_neg h0, if_neg (fun h => h0 (z0.2 h))]
      congr 1
      simp [zn]
theorem natAbs_mul_pow (T : Int) (c : Nat) : (T * 2 ^ c).natAbs = T.natAbs * 2 ^ c := by
  rw [Int.natAbs_mul, Int.natAbs_pow]; rfl
/-- A sum that is a word's value is that word. -/
theorem add_exact {x y z : Nat} (hx : rung x < infR) (hy : rung y < infR) (hz : z < 2 ^ 64) (hz' : rung z < infR) (hv : val x + val y = val z) (hs : neg z = if val z = 0 then neg x && neg y else decide (val z < 0)) : floatBits .add .f64 x y = some z := by
  obtain ⟨T, c, hT, e⟩ := add_fin hx hy
  rw [e, hv, ← hs]
  congr 1
  have hr : rnd T.natAbs (-1074 + (c : Int)) = rung z := by
    refine rnd_exact (a := c) (b := 0) hz' ?_ (by omega)
    rw [← natAbs_mul_pow, hT, hv]
    unfold val; cases neg z <;> simp
  rw [hr, wd_self hz]
theorem Is.val {x : Nat} {s : Bool} {m : Nat} {p : Int} (hx : Is x s m p) : Fl.val x = signed s m (p + 1074).toNat := by
  rw [val_of, hx.sg, signed_eq, signed_eq, hx.eq]; push_cast; simp

/-- The sum of two small integers. -/
theorem add_ints {x y : Int} (hx : x.natAbs ≤ 2 ^ 52) (hy : y.natAbs ≤ 2 ^ 52) : floatBits .add .f64 (floatOfInt .f64 x) (floatOfInt .f64 y) = some (floatOfInt .f64 (x + y)) := by
  have ix := is_int x (by omega)
  have iy := is_int y (by omega)
  have iz := is_int (x + y) (by omega)
  have hv : ∀ n : Int, signed (decide (n < 0)) n.natAbs ((0 : Int) + 1074).toNat = n * 2 ^ ((0 : Int) + 1074).toNat := by
    intro n
    rw [signed_eq]
    by_cases h : n < 0
    · have : n = -(n.natAbs : Int) := by omega
      simp only [h, decide_true, if_true]
      conv => rhs; rw [this]
      rw [Int.neg_mul]
    · have : n = (n.natAbs : Int) := by omega
      simp only [h, decide_false, Bool.false_eq_true, if_false]
      conv => rhs; rw [this]
  have vx := ix.val
  have vy := iy.val
  have vz := iz.val
  rw [hv] at vx vy vz
  have hp : (0 : Int) < 2 ^ ((0 : Int) + 1074).toNat := Int.pow_pos (by decide)
  have hvz0 : Fl.val (floatOfInt .f64 (x + y)) = 0 ↔ x + y = 0 := by
    rw [vz]
    constructor
    · intro h; rcases Int.mul_eq_zero.1 h with h | h
      · exact h
      · omega
    · intro h; rw [h, Int.zero_mul]
  have hvzn : Fl.val (floatOfInt .f64 (x + y)) < 0 ↔ x + y < 0 := by
    rw [vz]
    constructor
    · intro h
      by_cases h' : x + y < 0
      · exact h'
      · have := Int.mul_nonneg (show 0 ≤ x + y by omega) (Int.le_of_lt hp); omega
    · intro h; exact Int.mul_neg_of_neg_of_pos h hp
  refine add_exact ix.fin iy.fin iz.lt iz.fin (by rw [vx, vy, vz, Int.add_mul]) ?_
  rw [iz.sg, ix.sg, iy.sg]
  by_cases h0 : x + y = 0
  · rw [if_pos (hvz0.2 h0)]
    rw [h0]
    simp
    omega
  · rw [if_neg (fun h => h0 (hvz0.1 h))]
    simp [hvzn]

end Go.Fl
