/- Plain facts on what the model writes: the nearest word, exactness, signs. No program in sight. -/
import Derived.Test.YtgaodnflifkaiaaDoorF64A
namespace Go.Fl
open Ieee

/-- The rung of the number 'm * 2 ^ p'. -/
def rnd (m : Nat) (p : Int) : Nat :=
  if m = 0 then 0 else
  let last := max (p + m.log2 - 52) (-1074)
  min ((last + 1074).toNat * 2 ^ 52 + Toward.even.cut false (m <<< (p - last).toNat) (last - p).toNat) infR

theorem nearest_eq (s : Bool) (m : Nat) (p : Int) : double.nearest s m p = wd s (rnd m p) := by
  unfold Format.nearest rnd
  simp only [double_bin, double_inf, double_lp, double_word]
  by_cases h : m = 0
  · rw [if_pos h, if_pos h]
  · rw [if_neg h, if_neg h]
    rfl

theorem rnd_le (m : Nat) (p : Int) : rnd m p ≤ infR := by
  unfold rnd
  split
  · decide
  · exact Nat.min_le_right _ _
theorem infR_lt : infR < 2 ^ 63 := by decide
theorem rnd_lt (m : Nat) (p : Int) : rnd m p < 2 ^ 63 := Nat.lt_of_le_of_lt (rnd_le m p) infR_lt
theorem rnd_zero (p : Int) : rnd 0 p = 0 := by simp [rnd]

theorem cut_exact (s : Bool) (q d : Nat) : Toward.even.cut s (q * 2 ^ d) d = q := by
  unfold Toward.cut
  by_cases hq : q = 0
  · subst hq
    simp
  · have hpos : 0 < q * 2 ^ d := Nat.mul_pos (by omega) (Nat.two_pow_pos d)
    have hl : d ≤ (q * 2 ^ d).log2 := by
      rw [Nat.le_log2 (by omega)]
      exact Nat.le_mul_of_pos_left _ (by omega)
    have hm : min d ((q * 2 ^ d).log2 + 2) = d := by omega
    simp only [hm, Nat.one_shiftLeft]
    rw [Nat.mul_div_cancel _ (Nat.two_pow_pos d), Nat.mul_mod_left]
    have h2 : (2 ^ d == 0) = false := by have := Nat.two_pow_pos d; simp
    simp [h2]

theorem log2_mul_pow (m k : Nat) (h : m ≠ 0) : (m * 2 ^ k).log2 = m.log2 + k := by
  have hp : m * 2 ^ k ≠ 0 := by have := Nat.mul_pos (Nat.pos_of_ne_zero h) (Nat.two_pow_pos k); omega
  have h1 : 2 ^ m.log2 ≤ m := Nat.log2_self_le h
  have h2 : m < 2 ^ (m.log2 + 1) := Nat.lt_log2_self
  have h3 : m.log2 + k ≤ (m * 2 ^ k).log2 := by
    rw [Nat.le_log2 hp, Nat.pow_add]
    exact Nat.mul_le_mul_right _ h1
  have h4 : (m * 2 ^ k).log2 < m.log2 + k + 1 := by
    rw [Nat.log2_lt hp, show m.log2 + k + 1 = (m.log2 + 1) + k by omega, Nat.pow_add]
    exact Nat.mul_lt_mul_of_pos_right h2 (Nat.two_pow_pos _)
  omega
theorem log2_of {m k : Nat} (h1 : 2 ^ k ≤ m) (h2 : m < 2 ^ (k + 1)) : m.log2 = k := by
  have hm : m ≠ 0 := by have := Nat.two_pow_pos k; omega
  have h3 : k ≤ m.log2 := (Nat.le_log2 hm).2 h1
  have h4 : m.log2 < k + 1 := (Nat.log2_lt hm).2 h2
  omega

/-- What is a rung's number is rounded to that rung. -/
theorem rnd_exact {m r a b : Nat} {p : Int} (hr : r < infR) (he : m * 2 ^ a = mag r * 2 ^ b) (hp : (a : Int) - b = p + 1074) : rnd m p = r := by
  by_cases h0 : m = 0
  · subst h0
    rw [rnd_zero]
    have : mag r = 0 := by
      have h := Nat.two_pow_pos b
      rw [Nat.zero_mul] at he
      rcases Nat.mul_eq_zero.1 he.symm with h' | h'
      · exact h'
      · omega
    exact (mag_inj (this.trans mag_zero.symm)).symm
  have hm0 : mag r ≠ 0 := by
    intro h
    rw [h, Nat.zero_mul] at he
    have := Nat.mul_pos (Nat.pos_of_ne_zero h0) (Nat.two_pow_pos a)
    omega
  have hlog : m.log2 + a = (mag r).log2 + b := by
    rw [← log2_mul_pow m a h0, he, log2_mul_pow _ b hm0]
  -- the digits f at place k of the rung
  obtain ⟨f, k, hfk, hrk, hlast⟩ : ∃ f k : Nat, mag r = f * 2 ^ k ∧ r = k * 2 ^ 52 + f ∧ max (p + m.log2 - 52) (-1074) = (k : Int) - 1074 := by
    by_cases h1 : r < 2 ^ 52
    · have hm : mag r = r := by unfold mag; rw [if_pos h1]
      refine ⟨r, 0, by rw [hm]; simp, by simp, ?_⟩
      have hl : (mag r).log2 < 52 := by rw [Nat.log2_lt hm0, hm]; exact h1
      omega
    · have hm : mag r = (2 ^ 52 + r % 2 ^ 52) * 2 ^ (r / 2 ^ 52 - 1) := by unfold mag; rw [if_neg h1]
      refine ⟨2 ^ 52 + r % 2 ^ 52, r / 2 ^ 52 - 1, hm, by omega, ?_⟩
      have hl : (mag r).log2 = 52 + (r / 2 ^ 52 - 1) := by
        rw [hm, log2_mul_pow _ _ (by omega), log2_of (k := 52) (by omega) (by omega)]
      omega
  unfold rnd
  rw [if_neg h0]
  simp only [hlast]
  have e1 : ((k : Int) - 1074 + 1074).toNat = k := by omega
  rw [e1]
  have hcut : Toward.even.cut false (m <<< (p - ((k : Int) - 1074)).toNat) ((k : Int) - 1074 - p).toNat = f := by
    rw [Nat.shiftLeft_eq]
    rw [hfk, Nat.mul_assoc, ← Nat.pow_add] at he
    -- m * 2^a = f * 2^(k+b), a - b = p + 1074
    by_cases hc : (k : Int) - 1074 ≤ p
    · have e2 : ((k : Int) - 1074 - p).toNat = 0 := by omega
      obtain ⟨u, hu⟩ : ∃ u : Nat, (p - ((k : Int) - 1074)).toNat = u := ⟨_, rfl⟩
      rw [e2, hu]
      have e3 : a = u + (k + b) := by omega
      rw [e3, Nat.pow_add, ← Nat.mul_assoc] at he
      have e4 : m * 2 ^ u = f := Nat.eq_of_mul_eq_mul_right (Nat.two_pow_pos _) he
      rw [e4]
      have := cut_exact false f 0
      simpa using this
    · have e2 : (p - ((k : Int) - 1074)).toNat = 0 := by omega
      obtain ⟨u, hu⟩ : ∃ u : Nat, ((k : Int) - 1074 - p).toNat = u := ⟨_, rfl⟩
      rw [e2, hu]
      have e3 : k + b = u + a := by omega
      rw [e3, Nat.pow_add, ← Nat.mul_assoc] at he
      have e4 : m = f * 2 ^ u := Nat.eq_of_mul_eq_mul_right (Nat.two_pow_pos _) he
      rw [e4]
      simpa using cut_exact false f u
  rw [hcut, ← hrk]
  exact Nat.min_eq_left (by omega)

theorem write_number (s : Bool) (m : Nat) (p : Int) : double.write (.number s m p) = wd s (rnd m p) := nearest_eq s m p
theorem write_inf (s : Bool) : double.write (.infinity s) = wd s infR := by
  show double.word s double.infRung = _
  rw [double_inf]; rfl

/-- A word that is no NaN is written as it was read. -/
theorem write_read {x : Nat} (hx : x < 2 ^ 64) (h : nan x = false) : double.write (double.read x) = x := by
  have hx' : rung x ≤ infR := by simpa [nan] using h
  by_cases ix : rung x = infR
  · rw [read_inf ix, write_inf, ← ix, wd_self hx]
  · obtain ⟨m, k, e, hm, _⟩ := read_fin (show rung x < infR by omega)
    rw [e, write_number, rnd_exact (r := rung x) (a := k) (b := 0) (by omega) (by rw [hm]; simp) (by omega), wd_self hx]

/-- The opposite sign. -/
theorem negFloat_eq {x : Nat} (hx : x < 2 ^ 64) : Op.negFloat .f64 x = wd (!neg x) (rung x) := by
  have e : Op.negFloat .f64 x = x ^^^ 2 ^ 63 := rfl
  rw [e]
  unfold wd neg rung
  by_cases h : x < 2 ^ 63
  · have h1 : x / 2 ^ 63 = 0 := Nat.div_eq_of_lt h
    have h2 : x % 2 ^ 63 = x := Nat.mod_eq_of_lt h
    rw [h1, h2]
    simp only [Nat.zero_mod]
    have := Nat.two_pow_add_eq_or_of_lt h 1
    rw [Nat.xor_comm]
    have h3 : (2 ^ 63 ^^^ x) = 2 ^ 63 + x := by
      apply Nat.eq_of_testBit_eq
      intro i
      rw [Nat.testBit_xor, Nat.testBit_two_pow]
      by_cases hi : i = 63
      · subst hi
        rw [Nat.testBit_two_pow_add_eq]; simp
      · by_cases hi2 : i < 63
        · rw [Nat.testBit_two_pow_add_gt hi2]
          have : decide (63 = i) = false := by rw [decide_eq_false_iff_not]; omega
          rw [this]; simp
        · have hge : 64 ≤ i := by omega
          have l1 : x.testBit i = false := Nat.testBit_lt_two_pow (Nat.lt_of_lt_of_le h (Nat.pow_le_pow_right (by decide) (by omega)))
          have l2 : (2 ^ 63 + x).testBit i = false := Nat.testBit_lt_two_pow (Nat.lt_of_lt_of_le (show 2 ^ 63 + x < 2 ^ 64 by omega) (Nat.pow_le_pow_right (by decide) (by omega)))
          rw [l1, l2]; simp; omega
    rw [h3]; simp
  · obtain ⟨y, hy, rfl⟩ : ∃ y, y < 2 ^ 63 ∧ x = 2 ^ 63 + y := ⟨x - 2 ^ 63, by omega, by omega⟩
    have h1 : (2 ^ 63 + y) / 2 ^ 63 = 1 := by omega
    have h2 : (2 ^ 63 + y) % 2 ^ 63 = y := by omega
    rw [h1, h2]
    have h3 : ((2 ^ 63 + y) ^^^ 2 ^ 63) = y := by
      apply Nat.eq_of_testBit_eq
      intro i
      rw [Nat.testBit_xor, Nat.testBit_two_pow]
      by_cases hi : i = 63
      · subst hi
        rw [Nat.testBit_two_pow_add_eq]; simp
      · by_cases hi2 : i < 63
        · rw [Nat.testBit_two_pow_add_gt hi2]
          have : decide (63 = i) = false := by rw [decide_eq_false_iff_not]; omega
          rw [this]; simp
        · have l1 : y.testBit i = false := Nat.testBit_lt_two_pow (Nat.lt_of_lt_of_le hy (Nat.pow_le_pow_right (by decide) (by omega)))
          have l2 : (2 ^ 63 + y).testBit i = false := Nat.testBit_lt_two_pow (Nat.lt_of_lt_of_le (show 2 ^ 63 + y < 2 ^ 64 by omega) (Nat.pow_le_pow_right (by decide) (by omega)))
          rw [l1, l2]; simp; omega
    rw [h3]; simp

theorem rung_neg {x : Nat} (hx : x < 2 ^ 64) : rung (Op.negFloat .f64 x) = rung x := by
  rw [negFloat_eq hx, rung_wd _ (rung_lt x)]
theorem neg_neg {x : Nat} (hx : x < 2 ^ 64) : neg (Op.negFloat .f64 x) = !neg x := by
  rw [negFloat_eq hx, neg_wd _ (rung_lt x)]
theorem wd_lt (s : Bool) {r : Nat} (h : r < 2 ^ 63) : wd s r < 2 ^ 64 := by
  unfold wd; split <;> omega
theorem negFloat_lt {x : Nat} (hx : x < 2 ^ 64) : Op.negFloat .f64 x < 2 ^ 64 := by
  rw [negFloat_eq hx]; exact wd_lt _ (rung_lt x)
theorem nan_neg {x : Nat} (hx : x < 2 ^ 64) : nan (Op.negFloat .f64 x) = nan x := by
  unfold nan; rw [rung_neg hx]
theorem key_neg {x : Nat} (hx : x < 2 ^ 64) : key (Op.negFloat .f64 x) = - key x := by
  unfold key; rw [rung_neg hx, neg_neg hx]; cases neg x <;> simp
theorem read_neg {x : Nat} (hx : x < 2 ^ 64) : double.read (Op.negFloat .f64 x) = (double.read x).opposite := by
  rw [read_eq, read_eq, rung_neg hx, neg_neg hx]
  repeat (split; · rfl)
  rfl
theorem negFloat_twice {x : Nat} (hx : x < 2 ^ 64) : Op.negFloat .f64 (Op.negFloat .f64 x) = x := by
  rw [negFloat_eq (negFloat_lt hx), rung_neg hx, neg_neg hx, Bool.not_not, wd_self hx]

/-- What the tape gives for a NaN is one. -/
theorem nan_cut (x y t : Nat) : nan (Question.cut (.nanBits .f64 x y) t) = true ∧ Question.cut (.nanBits .f64 x y) t < 2 ^ 64 := by
  show nan ((t % 2) * 2 ^ 63 + 0x7ff0000000000000 + 1 + (t / 2) % (2 ^ 52 - 1)) = true ∧ (t % 2) * 2 ^ 63 + 0x7ff0000000000000 + 1 + (t / 2) % (2 ^ 52 - 1) < 2 ^ 64
  have h1 : t % 2 < 2 := Nat.mod_lt _ (by decide)
  have h2 : t / 2 % (2 ^ 52 - 1) < 2 ^ 52 - 1 := Nat.mod_lt _ (by decide)
  generalize t % 2 = a at *
  generalize t / 2 % (2 ^ 52 - 1) = b at *
  refine ⟨?_, by omega⟩
  rw [nan_iff]
  unfold infR rung
  rcases (show a = 0 ∨ a = 1 by omega) with h | h <;> subst h <;> omega

end Go.Fl
