/- Products and signs, powers of two, square roots of perfect squares. No program in sight. -/
import Derived.Test.YtehmgpceajbmkaaF64D
import Derived.Test.YtehmgpceajbmkaaF64S
namespace Go.Fl
open Ieee
set_option linter.unusedVariables false
set_option linter.unusedSimpArgs false

theorem write_opp_number (s : Bool) (m : Nat) (p : Int) : double.write (.number (!s) m p) = Op.negFloat .f64 (double.write (.number s m p)) := by
  have h := rnd_lt m p
  rw [write_number, write_number, negFloat_eq (wd_lt _ h), neg_wd _ h, rung_wd _ h]
theorem write_opp_inf (s : Bool) : double.write (.infinity (!s)) = Op.negFloat .f64 (double.write (.infinity s)) := by
  rw [write_inf, write_inf, negFloat_eq (wd_lt _ infR_lt), neg_wd _ infR_lt, rung_wd _ infR_lt]

theorem mul_neg_right {x y : Nat} (hy : y < 2 ^ 64) : floatBits .mul .f64 x (Op.negFloat .f64 y) = (floatBits .mul .f64 x y).map (Op.negFloat .f64) := by
  rw [fb_mul, fb_mul, read_neg hy]
  cases double.read x <;> cases double.read y <;> simp only [Datum.product, Datum.opposite, Option.map_none, Option.map_some]
  · rename_i s m p t n q
    rw [← write_opp_number]; cases s <;> cases t <;> rfl
  · rename_i s m p t
    by_cases h : m = 0
    · simp [h]
    · simp only [h, if_false, Option.map_some, ← write_opp_inf]; cases s <;> cases t <;> rfl
  · rename_i s t n q
    by_cases h : n = 0
    · simp [h]
    · simp only [h, if_false, Option.map_some, ← write_opp_inf]; cases s <;> cases t <;> rfl
  · rename_i s t
    rw [← write_opp_inf]; cases s <;> cases t <;> rfl
theorem mul_comm' (x y : Nat) : floatBits .mul .f64 x y = floatBits .mul .f64 y x := by
  rw [fb_mul, fb_mul]
  cases double.read x <;> cases double.read y <;> simp only [Datum.product, Option.map_none, Option.map_some]
  · rename_i s m p t n q
    rw [Nat.mul_comm, Int.add_comm, Bool.xor_comm]
  · rw [Bool.xor_comm]
theorem mul_neg_both {x y : Nat} (hx : x < 2 ^ 64) (hy : y < 2 ^ 64) : floatBits .mul .f64 (Op.negFloat .f64 x) (Op.negFloat .f64 y) = floatBits .mul .f64 x y := by
  rw [mul_neg_right hy, mul_comm', mul_neg_right hx, mul_comm' y x]
  cases h : floatBits .mul .f64 x y with
  | none => rfl
  | some z =>
    have hz : z < 2 ^ 64 := by have := floatBits_wf h; simpa [Lit.wf] using this
    simp [negFloat_twice hz]
theorem neg_write_number (s : Bool) (m : Nat) (p : Int) : neg (double.write (.number s m p)) = s := by rw [write_number, neg_wd _ (rnd_lt m p)]
theorem neg_write_inf (s : Bool) : neg (double.write (.infinity s)) = s := by rw [write_inf, neg_wd _ infR_lt]
/-- A product that is no NaN has the product of the signs. -/
theorem mul_sign {x y z : Nat} (h : floatBits .mul .f64 x y = some z) : nan z = false ∧ neg z = (neg x ^^ neg y) := by
  rw [fb_mul] at h
  rcases cases_word x with hx | hx | hx
  · rw [product_nan_left hx] at h; cases h
  · rcases cases_word y with hy | hy | hy
    · rw [product_nan_right hy] at h; cases h
    · rw [read_inf hx, read_inf hy] at h
      simp only [Datum.product, Option.map_some, Option.some.injEq] at h
      subst h; exact ⟨nan_write_inf _, neg_write_inf _⟩
    · obtain ⟨n, l, ey, _⟩ := read_fin hy
      rw [read_inf hx, ey] at h
      simp only [Datum.product] at h
      split at h
      · cases h
      · simp only [Option.map_some, Option.some.injEq] at h
        subst h; exact ⟨nan_write_inf _, neg_write_inf _⟩
  · obtain ⟨m, k, ex, _⟩ := read_fin hx
    rcases cases_word y with hy | hy | hy
    · rw [product_nan_right hy] at h; cases h
    · rw [ex, read_inf hy] at h
      simp only [Datum.product] at h
      split at h
      · cases h
      · simp only [Option.map_some, Option.some.injEq] at h
        subst h; rw [Bool.xor_comm]; exact ⟨nan_write_inf _, neg_write_inf _⟩
    · obtain ⟨n, l, ey, _⟩ := read_fin hy
      rw [ex, ey] at h
      simp only [Datum.product, Option.map_some, Option.some.injEq] at h
      subst h; exact ⟨nan_write_number _ _ _, neg_write_number _ _ _⟩
/-- A square: it is there, not negative; of nought nought, of infinity infinity. -/
theorem square {x : Nat} (hn : nan x = false) : ∃ z, floatBits .mul .f64 x x = some z ∧ (rung x = 0 → rung z = 0) ∧ (rung x = infR → rung z = infR) := by
  rcases not_nan_cases hn with h | h
  · refine ⟨double.write (.infinity false), ?_, fun h0 => ?_, fun _ => ?_⟩
    · rw [fb_mul, read_inf h]; simp only [Datum.product, Option.map_some, Bool.xor_self]
    · rw [h0] at h; exact absurd h (by decide)
    · rw [write_inf, rung_wd _ infR_lt]
  · obtain ⟨m, k, e, hm, _⟩ := read_fin h
    refine ⟨_, by rw [fb_mul, e]; simp only [Datum.product, Option.map_some]; rfl, fun h0 => ?_, fun hi => by omega⟩
    have : m = 0 := by
      rw [h0, mag_zero] at hm
      rcases Nat.mul_eq_zero.1 hm with h' | h'
      · exact h'
      · have := Nat.two_pow_pos k; omega
    rw [this, write_number, rnd_zero, rung_wd _ (by decide)]
theorem mul_some {x y : Nat} (hx : nan x = false) (hy : nan y = false) (h1 : rung x = infR → rung y ≠ 0) (h2 : rung y = infR → rung x ≠ 0) : ∃ z, floatBits .mul .f64 x y = some z := by
  have key0 : ∀ {a : Nat}, rung a < infR → rung a ≠ 0 → ∃ m k : Nat, double.read a = .number (neg a) m (-1074 + (k : Int)) ∧ m ≠ 0 := by
    intro a ha h0
    obtain ⟨m, k, e, hm, _⟩ := read_fin ha
    refine ⟨m, k, e, fun h => h0 ?_⟩
    rw [h, Nat.zero_mul] at hm
    exact mag_inj (hm.symm.trans mag_zero.symm)
  rw [fb_mul]
  rcases not_nan_cases hx with h | h
  · rcases not_nan_cases hy with k | k
    · rw [read_inf h, read_inf k]; exact ⟨_, rfl⟩
    · obtain ⟨n, l, e, hn⟩ := key0 k (h1 h)
      rw [read_inf h, e]; simp only [Datum.product, hn, if_false]; exact ⟨_, rfl⟩
  · rcases not_nan_cases hy with k | k
    · obtain ⟨n, l, e, hn⟩ := key0 h (h2 k)
      rw [read_inf k, e]; simp only [Datum.product, hn, if_false]; exact ⟨_, rfl⟩
    · obtain ⟨m, a, ea, _⟩ := read_fin h
      obtain ⟨n, b, eb, _⟩ := read_fin k
      rw [ea, eb]; exact ⟨_, rfl⟩

/-- A cube and the cube of the opposite. -/
theorem cubes {x r1 r s1 s : Nat} (hx : x < 2 ^ 64) (hn : nan x = false) (h1 : FR .mul x x r1) (h2 : FR .mul r1 x r) (k1 : FR .mul (Op.negFloat .f64 x) (Op.negFloat .f64 x) s1) (k2 : FR .mul s1 (Op.negFloat .f64 x) s) :
    s = Op.negFloat .f64 r ∧ nan r = false ∧ neg r = neg x := by
  obtain ⟨z, hz, z0, zi⟩ := square hn
  obtain ⟨zn, zs⟩ := mul_sign hz
  have e1 := h1.of_some hz
  have e2 := k1.of_some (by rw [mul_neg_both hx hx]; exact hz)
  subst e1
  subst e2
  have hxi : rung x = infR ∨ rung x < infR := not_nan_cases hn
  obtain ⟨c, hc⟩ := mul_some zn hn (fun hi h0 => by rw [z0 h0] at hi; exact absurd hi (by decide)) (fun hi h0 => by rw [zi hi] at h0; exact absurd h0 (by decide))
  obtain ⟨cn, cs⟩ := mul_sign hc
  have e3 := h2.of_some hc
  have e4 := k2.of_some (by rw [mul_neg_right hx, hc]; rfl)
  subst e3
  refine ⟨e4, cn, ?_⟩
  rw [cs, zs, Bool.xor_self, Bool.false_xor]
theorem cube_nan {x r1 r : Nat} (hn : nan x = true) (h2 : FR .mul r1 x r) : nan r = true := by
  refine h2.of_none ?_
  rw [fb_mul, product_nan_right hn]; rfl

/-- Doubling and halving a power of two. -/
theorem pow_double {p : Nat} {i : Int} (h : Is p false 1 i) (h1 : i ≤ 969) (w : World) : Is (fop .mul w p 4611686018427387904) false 1 (i + 1) := by
  have h2 : Is 4611686018427387904 false 1 1 := by
    have := is_write false 1 1 (by decide) (by decide) (by decide)
    have e : double.write (.number false 1 1) = 4611686018427387904 := by decide
    rwa [e] at this
  have := h.place
  obtain ⟨z, hz, hi⟩ := h.mul h2 (by decide) (by omega) (by omega)
  rw [(fop_FR .mul w _ _).of_some hz]
  exact hi
theorem pow_halve {p : Nat} {i : Int} (h : Is p false 1 i) (h0 : -1073 ≤ i) (h1 : i ≤ 970) (w : World) : Is (fop .quo w p 4611686018427387904) false 1 (i - 1) := by
  have hq := is_write false 1 (i - 1) (by decide) (by omega) (by omega)
  have e : floatBits .quo .f64 p 4611686018427387904 = some (double.write (.number false 1 (i - 1))) := by
    refine quo_two hq.lt hq.fin h.fin (by rw [h.sg, hq.sg]) ?_
    rw [h.eq, hq.eq]
    have : (i + 1074).toNat = (i - 1 + 1074).toNat + 1 := by omega
    rw [this, Nat.pow_succ]; omega
  rw [(fop_FR .quo w _ _).of_some e]
  exact hq
theorem one_is1 : Is 4607182418800017408 false 1 0 := one_is

/-- The digits of a root, tried one by one. -/
theorem rootFrom_spec (n : Nat) : ∀ (t r : Nat), r * r ≤ n → n < (r + 2 ^ t) * (r + 2 ^ t) → Datum.rootFrom n t r * Datum.rootFrom n t r ≤ n ∧ n < (Datum.rootFrom n t r + 1) * (Datum.rootFrom n t r + 1) := by
  intro t
  induction t with
  | zero => intro r h1 h2; exact ⟨h1, by simpa [Datum.rootFrom] using h2⟩
  | succ t ih =>
    intro r h1 h2
    unfold Datum.rootFrom
    simp only [Nat.one_shiftLeft]
    by_cases h : (r + 2 ^ t) * (r + 2 ^ t) ≤ n
    · rw [if_pos h]
      refine ih _ h ?_
      have : r + 2 ^ t + 2 ^ t = r + 2 ^ (t + 1) := by rw [Nat.pow_succ]; omega
      rw [this]; exact h2
    · rw [if_neg h]
      exact ih _ h1 (by omega)
theorem root_square (a : Nat) (t : Nat) (h : a < 2 ^ t) : Datum.rootFrom (a * a) t 0 = a := by
  have h2 : a * a < (0 + 2 ^ t) * (0 + 2 ^ t) := by rw [Nat.zero_add]; exact Nat.mul_lt_mul'' h h
  obtain ⟨h3, h4⟩ := rootFrom_spec (a * a) t 0 (by simp) h2
  generalize Datum.rootFrom (a * a) t 0 = r at h3 h4
  have h5 : r ≤ a := by
    by_cases c : r ≤ a
    · exact c
    · have := Nat.mul_lt_mul'' (show a < r by omega) (show a < r by omega); omega
  have h6 : a < r + 1 := by
    by_cases c : a < r + 1
    · exact c
    · have := Nat.mul_le_mul (show r + 1 ≤ a by omega) (show r + 1 ≤ a by omega); omega
  omega

/-- The square root of a scaled perfect square. -/
theorem sqrt_exact {x N : Nat} {k : Int} (hx : Is x false (N * N) (2 * k)) (hN : N ≤ 2 ^ 26) (h0 : N ≠ 0) (k1 : -500 ≤ k) (k2 : k ≤ 400) : ∃ z, double.sqrt x = some z ∧ Is z false N k := by
  have hz := is_write false N k (by omega) (by omega) (by omega)
  refine ⟨_, ?_, hz⟩
  obtain ⟨m, c, e, hm⟩ := hx.read
  have hNN : N * N ≠ 0 := Nat.mul_ne_zero h0 h0
  have hm0 : m ≠ 0 := by
    intro h
    rw [h, Nat.zero_mul] at hm
    have := Nat.mul_pos (Nat.pos_of_ne_zero hNN) (Nat.two_pow_pos (2 * k + 1074).toNat)
    omega
  have hNN2 : N * N ≤ 2 ^ 52 := Nat.le_trans (Nat.mul_le_mul hN hN) (by decide)
  have hl : m.log2 + c = (N * N).log2 + (2 * k + 1074).toNat := by rw [← log2_mul_pow m c hm0, hm, log2_mul_pow _ _ hNN]
  have hl2 : (N * N).log2 ≤ 52 := by
    have : (N * N).log2 < 53 := (Nat.log2_lt hNN).2 (by omega)
    omega
  have hml : m.log2 ≤ 52 := by
    obtain ⟨m', k', e', _, h53, _⟩ := read_fin hx.fin
    rw [e] at e'
    injection e' with _ e2 _
    subst e2
    have : m.log2 < 53 := (Nat.log2_lt hm0).2 h53
    omega
  show ((double.read x).root 54).map double.write = _
  rw [e]
  simp only [Datum.root, hm0, if_false, Bool.false_eq_true, Option.map_some]
  congr 1
  -- the shift, made even
  obtain ⟨M, hM⟩ : ∃ M : Nat, 2 * 54 - m.log2 + (((-1074 + (c : Int)) - ((2 * 54 - m.log2 : Nat) : Int)) % 2).toNat = M := ⟨_, rfl⟩
  rw [hM]
  have hM1 : 56 ≤ M ∧ M ≤ 109 := by omega
  have hpar : ((-1074 + (c : Int)) - (M : Int)) % 2 = 0 := by omega
  -- n = (N * 2 ^ j) ^ 2
  obtain ⟨j, hj⟩ : ∃ j : Nat, 2 * k - ((-1074 + (c : Int)) - (M : Int)) = 2 * (j : Int) := ⟨(2 * k - ((-1074 + (c : Int)) - (M : Int))).toNat / 2, by omega⟩
  have hn : m <<< M = (N * 2 ^ j) * (N * 2 ^ j) := by
    rw [Nat.shiftLeft_eq]
    apply Nat.eq_of_mul_eq_mul_right (Nat.two_pow_pos c)
    have e1 : (2 * k + 1074).toNat + M = 2 * j + c := by omega
    calc m * 2 ^ M * 2 ^ c = m * 2 ^ c * 2 ^ M := by ac_rfl
      _ = N * N * 2 ^ (2 * k + 1074).toNat * 2 ^ M := by rw [hm]
      _ = N * N * (2 ^ (j + j) * 2 ^ c) := by rw [Nat.mul_assoc, ← Nat.pow_add, ← Nat.pow_add, e1]; congr 2; omega
      _ = N * 2 ^ j * (N * 2 ^ j) * 2 ^ c := by rw [Nat.pow_add]; ac_rfl
  have hlog : N * 2 ^ j < 2 ^ ((m <<< M).log2 / 2 + 1) := by
    have hp : N * 2 ^ j ≠ 0 := Nat.mul_ne_zero h0 (by have := Nat.two_pow_pos j; omega)
    have h1 : 2 ^ (N * 2 ^ j).log2 ≤ N * 2 ^ j := Nat.log2_self_le hp
    have h2 : 2 * (N * 2 ^ j).log2 ≤ (m <<< M).log2 := by
      rw [hn, Nat.le_log2 (Nat.mul_ne_zero hp hp), show 2 * (N * 2 ^ j).log2 = (N * 2 ^ j).log2 + (N * 2 ^ j).log2 by omega, Nat.pow_add]
      exact Nat.mul_le_mul h1 h1
    exact Nat.lt_of_lt_of_le Nat.lt_log2_self (Nat.pow_le_pow_right (by decide) (by omega))
  have hroot : Datum.rootFrom (m <<< M) ((m <<< M).log2 / 2 + 1) 0 = N * 2 ^ j := by
    have := root_square (N * 2 ^ j) ((m <<< M).log2 / 2 + 1) hlog
    rw [← hn] at this; exact this
  rw [hroot]
  have hst : (N * 2 ^ j * (N * 2 ^ j) != m <<< M) = false := by rw [hn]; simp
  rw [hst]
  obtain ⟨B, hB⟩ : ∃ B : Nat, B = 2000 := ⟨_, rfl⟩
  refine write_is hz (a := ((-1074 + (c : Int) - M) / 2 - 1 + 1074 + B).toNat) (b := B) ?_ (by omega)
  have e2 : (k + 1074).toNat + B = j + 1 + ((-1074 + (c : Int) - M) / 2 - 1 + 1074 + B).toNat := by omega
  have e3 : (false : Bool).toNat = 0 := rfl
  rw [e3, Nat.add_zero, Nat.mul_assoc N, ← Nat.pow_add, e2]
  rw [Nat.pow_add, Nat.pow_add, Nat.pow_one]
  ac_rfl

end Go.Fl
