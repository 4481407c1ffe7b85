/- Errors of the operations, as rational numbers. No program in sight. -/
import Derived.Test.YtgaodnflifkaiaaDoorF64Q
namespace Go.Fl
open Ieee
set_option linter.unusedVariables false

theorem Mono.flip {V K : Int} {r : Nat} (h : Mono V K r) : Mono (-V) K (Op.negFloat .f64 r) := by
  have hr := h.lt
  refine ⟨negFloat_lt hr, by rw [nan_neg hr]; exact h.num, fun z hz hv => ?_, fun z hz hv => ?_⟩
  all_goals
    obtain ⟨z', hz', hk', hv', hf'⟩ : ∃ z', z' < 2 ^ 64 ∧ key z' = -key z ∧ val z' = -val z ∧ rung z' = rung z := by
      have hw : wd (!neg z) (rung z) < 2 ^ 64 := wd_lt _ (rung_lt z)
      refine ⟨wd (!neg z) (rung z), hw, ?_, ?_, rung_wd _ (rung_lt z)⟩
      · unfold key; rw [neg_wd _ (rung_lt z), rung_wd _ (rung_lt z)]
        cases neg z <;> simp
      · unfold val; rw [neg_wd _ (rung_lt z), rung_wd _ (rung_lt z)]
        cases neg z <;> simp
    rw [key_neg hr]
  · have := h.le z' (by rw [hf']; exact hz) (by rw [hv', Int.neg_mul]; omega)
    omega
  · have := h.ge z' (by rw [hf']; exact hz) (by rw [hv', Int.neg_mul]; omega)
    omega

/-- A whole number of steps '2 ^ G' is a word. -/
theorem step_word (q : Int) (G : Nat) (hq : q.natAbs ≤ 2 ^ 53) (hG : G ≤ 2044) : ∃ z, rung z < infR ∧ val z = q * 2 ^ G := by
  obtain ⟨r, hr, e⟩ := exists_rung q.natAbs G hq hG
  have h63 : r < 2 ^ 63 := Nat.lt_trans hr infR_lt
  refine ⟨wd (decide (q < 0)) r, by rw [rung_wd _ h63]; exact hr, ?_⟩
  unfold val
  rw [rung_wd _ h63, neg_wd _ h63, e, cast_pow]
  by_cases h : q < 0
  · rw [decide_eq_true h, if_pos rfl]
    have : q = -(q.natAbs : Int) := by omega
    conv => rhs; rw [this]
    push_cast; rw [Int.neg_mul]
  · rw [decide_eq_false h, if_neg (by decide)]
    have : q = (q.natAbs : Int) := by omega
    conv => rhs; rw [this]
    push_cast; rfl

/-- Near by a step: where the number is under '2 ^ (53 + G)', the word is within '2 ^ G'. -/
theorem near_abs {V K : Int} {r : Nat} (h : Mono V K r) (hK : 0 < K) {G : Nat} (hG : G ≤ 2044) (h1 : V < 2 ^ 53 * (2 ^ G * K)) (h2 : -(2 ^ 53 * (2 ^ G * K)) ≤ V) :
    val r * K ≤ V + 2 ^ G * K ∧ V - 2 ^ G * K ≤ val r * K ∧ rung r < infR := by
  have hS : (0 : Int) < 2 ^ G * K := Int.mul_pos (Int.pow_pos (by decide)) hK
  obtain ⟨S, hSe⟩ : ∃ S : Int, S = 2 ^ G * K := ⟨_, rfl⟩
  rw [← hSe] at hS h1 h2 ⊢
  obtain ⟨q, hq⟩ : ∃ q : Int, q = V / S := ⟨_, rfl⟩
  have e1 : q * S ≤ V := by rw [hq]; exact Int.ediv_mul_le V (by omega)
  have e2 : V < (q + 1) * S := by rw [hq]; exact Int.lt_ediv_add_one_mul_self V hS
  have q1 : q < 2 ^ 53 := by
    apply Int.lt_of_not_ge; intro hgt
    have : 2 ^ 53 * S ≤ q * S := Int.mul_le_mul_of_nonneg_right (by omega) (by omega)
    omega
  have q2 : -(2 ^ 53) ≤ q := by
    apply Int.le_of_not_gt; intro hgt
    have : (q + 1) * S ≤ (-(2 ^ 53)) * S := Int.mul_le_mul_of_nonneg_right (by omega) (by omega)
    rw [Int.neg_mul] at this
    omega
  obtain ⟨z1, f1, v1⟩ := step_word q G (by omega) hG
  obtain ⟨z2, f2, v2⟩ := step_word (q + 1) G (by omega) hG
  have a1 : val z1 * K = q * S := by rw [v1, hSe, Int.mul_assoc]
  have a2 : val z2 * K = (q + 1) * S := by rw [v2, hSe, Int.mul_assoc]
  have k1 := h.ge z1 f1 (by rw [a1]; exact e1)
  have k2 := h.le z2 f2 (by rw [a2]; omega)
  have w1 := val_le_of_key_le k1
  have w2 := val_le_of_key_le k2
  have m1 := Int.mul_le_mul_of_nonneg_right w1 (Int.le_of_lt hK)
  have m2 := Int.mul_le_mul_of_nonneg_right w2 (Int.le_of_lt hK)
  rw [a1] at m1
  rw [a2, Int.add_mul, Int.one_mul] at m2
  rw [Int.add_mul, Int.one_mul] at e2
  refine ⟨by omega, by omega, ?_⟩
  unfold key at k1 k2
  have := rung_lt z1
  cases hn : neg r <;> rw [hn] at k1 k2 <;> simp only [Bool.false_eq_true, if_false, if_true] at k1 k2
  · split at k2 <;> omega
  · split at k1 <;> omega

/-- Near by a part: a positive number of at least '2 ^ 52' steps. -/
theorem near_pos {V K : Int} {r : Nat} (h : Mono V K r) (hK : 0 < K) (h1 : 2 ^ 52 * K ≤ V) {B : Nat} (hB : B ≤ 2044) (h2 : V < 2 ^ 53 * (2 ^ B * K)) :
    2 ^ 52 * (val r * K) ≤ 2 ^ 52 * V + V ∧ 2 ^ 52 * V - V ≤ 2 ^ 52 * (val r * K) ∧ rung r < infR := by
  have hd : ∀ G, G ≤ B → V < 2 ^ 53 * (2 ^ G * K) → ∃ G', G' ≤ B ∧ V < 2 ^ 53 * (2 ^ G' * K) ∧ 2 ^ 52 * (2 ^ G' * K) ≤ V := by
    intro G
    induction G with
    | zero => intro _ h; exact ⟨0, by omega, h, by rw [Int.pow_zero, Int.one_mul]; exact h1⟩
    | succ G ih =>
      intro hle h
      by_cases hx : V < 2 ^ 53 * (2 ^ G * K)
      · exact ih (by omega) hx
      · refine ⟨G + 1, hle, h, ?_⟩
        have e : (2 : Int) ^ (G + 1) * K = 2 * (2 ^ G * K) := by rw [Int.pow_succ]; ac_rfl
        rw [e]
        omega
  obtain ⟨G, hG, g1, g2⟩ := hd B (Nat.le_refl _) h2
  have hS : (0 : Int) < 2 ^ G * K := Int.mul_pos (Int.pow_pos (by decide)) hK
  obtain ⟨n1, n2, n3⟩ := near_abs h hK (G := G) (by omega) g1 (by omega)
  exact ⟨by omega, by omega, n3⟩

/-! ### As rational numbers -/
def ub : Nat := 1074
theorem ub_eq : ub = 1074 := rfl
/-- One, in units. -/
def ur : Rat := (2 : Rat) ^ ub
theorem ur_pos : 0 < ur := Rat.pow_pos (by decide)
def rv (x : Nat) : Rat := (val x : Rat) / ur
theorem rv_ur (x : Nat) : (val x : Rat) = rv x * ur := by
  have := ur_pos
  unfold rv; grind
theorem cast_pow2 (b : Nat) : (((2 : Int) ^ b : Int) : Rat) = (2 : Rat) ^ b := by push_cast; rfl
theorem rle_cancel {a b c : Rat} (hc : 0 < c) (h : a * c ≤ b * c) : a ≤ b := Rat.le_of_mul_le_mul_right h hc
theorem rv_pos {x : Nat} (h : 0 < val x) : 0 < rv x := by
  unfold rv
  have h1 : (0 : Rat) < (val x : Rat) := by exact_mod_cast h
  have h2 := ur_pos
  rw [Rat.div_def]
  exact Rat.mul_pos h1 (Rat.inv_pos.2 h2)
/-- The unit of error. -/
def ep : Rat := 1 / 2 ^ 52

theorem near_rat {V K : Int} {r : Nat} (n1 : 2 ^ 52 * (val r * K) ≤ 2 ^ 52 * V + V) (n2 : 2 ^ 52 * V - V ≤ 2 ^ 52 * (val r * K)) : (val r : Rat) * (K : Rat) ≤ (1 + ep) * (V : Rat) ∧ (1 - ep) * (V : Rat) ≤ (val r : Rat) * (K : Rat) := by
  obtain ⟨c, hc⟩ : ∃ c : Int, c = 2 ^ 52 := ⟨_, rfl⟩
  rw [← hc] at n1 n2
  have hr : (c : Rat) = 4503599627370496 := by rw [hc]; rfl
  have m1 : ((c * (val r * K) : Int) : Rat) ≤ ((c * V + V : Int) : Rat) := Rat.intCast_le_intCast.2 n1
  have m2 : ((c * V - V : Int) : Rat) ≤ ((c * (val r * K) : Int) : Rat) := Rat.intCast_le_intCast.2 n2
  rw [Rat.intCast_mul, Rat.intCast_mul, Rat.intCast_add, Rat.intCast_mul, hr] at m1
  rw [Rat.intCast_sub, Rat.intCast_mul, Rat.intCast_mul, Rat.intCast_mul, hr] at m2
  have he : ep = 1 / 4503599627370496 := by unfold ep; rfl
  rw [he]
  constructor <;> grind
theorem up_to {x A B : Nat} (hx : In x A B) (hA : 52 ≤ A) : (2 : Int) ^ 52 ≤ val x := by
  rw [val_self hx.fin]
  have h1 : 2 ^ 52 ≤ 2 ^ A := Nat.pow_le_pow_right (by decide) hA
  have := hx.lo
  omega
theorem add_rv {x y r : Nat} {A B C D : Nat} (hx : In x A B) (hy : In y C D) (hA : 52 ≤ A) (hB : B ≤ 2000) (hD : D ≤ 2000) (h : floatBits .add .f64 x y = some r) : rv r ≤ (1 + ep) * (rv x + rv y) ∧ (1 - ep) * (rv x + rv y) ≤ rv r := by
  obtain ⟨r', h', hm⟩ := add_mono (rung_fin hx.fin) (rung_fin hy.fin)
  obtain rfl : r = r' := by rw [h] at h'; exact Option.some.inj h'
  have py := hy.pos
  have l1 : (2 : Int) ^ 52 * 1 ≤ val x + val y := by have := up_to hx hA; omega
  obtain ⟨g, hg⟩ : ∃ g, g = 2000 := ⟨_, rfl⟩
  have l2 : val x + val y < 2 ^ 53 * (2 ^ g * 1) := by
    rw [val_self hx.fin, val_self hy.fin]
    have h1 : 2 ^ B ≤ 2 ^ g := Nat.pow_le_pow_right (by decide) (by omega)
    have h2 : 2 ^ D ≤ 2 ^ g := Nat.pow_le_pow_right (by decide) (by omega)
    have := hx.hi
    have := hy.hi
    rw [cast_pow g]
    have h3 : 0 < 2 ^ g := Nat.two_pow_pos _
    generalize 2 ^ g = G at *
    omega
  obtain ⟨n1, n2, _⟩ := near_pos hm (by decide) l1 (B := g) (by omega) l2
  obtain ⟨m1, m2⟩ := near_rat n1 n2
  rw [Rat.intCast_add, rv_ur x, rv_ur y, rv_ur r] at m1 m2
  have hu := ur_pos
  have one : ((1 : Int) : Rat) = 1 := rfl
  rw [one] at m1 m2
  constructor
  · refine rle_cancel hu ?_
    grind
  · refine rle_cancel hu ?_
    grind
theorem mul_rv {x y r : Nat} {A B C D : Nat} (hx : In x A B) (hy : In y C D) (hA : 1126 ≤ A + C) (hB : B + D ≤ 3100) (h : floatBits .mul .f64 x y = some r) : rv r ≤ (1 + ep) * (rv x * rv y) ∧ (1 - ep) * (rv x * rv y) ≤ rv r := by
  obtain ⟨r', h', hm⟩ := mul_mono (rung_fin hx.fin) (rung_fin hy.fin) ub_eq
  obtain rfl : r = r' := by rw [h] at h'; exact Option.some.inj h'
  have hub := ub_eq
  have hK : (0 : Int) < 2 ^ ub := Int.pow_pos (by decide)
  have l1 : (2 : Int) ^ 52 * 2 ^ ub ≤ val x * val y := by
    rw [val_self hx.fin, val_self hy.fin, ← Int.pow_add, cast_pow]
    have h1 : 2 ^ (52 + ub) ≤ 2 ^ (A + C) := Nat.pow_le_pow_right (by decide) (by omega)
    have h2 : 2 ^ A * 2 ^ C ≤ mag x * mag y := Nat.mul_le_mul hx.lo hy.lo
    rw [← Nat.pow_add] at h2
    exact_mod_cast Nat.le_trans h1 h2
  obtain ⟨g, hg⟩ : ∃ g, g = 2000 := ⟨_, rfl⟩
  have l2 : val x * val y < 2 ^ 53 * (2 ^ g * 2 ^ ub) := by
    rw [val_self hx.fin, val_self hy.fin, ← Int.pow_add, ← Int.pow_add, cast_pow]
    have h1 : 2 ^ (B + D) < 2 ^ (53 + (g + ub)) := Nat.pow_lt_pow_right (by decide) (by omega)
    have h2 : mag x * mag y ≤ 2 ^ B * 2 ^ D := Nat.mul_le_mul hx.hi hy.hi
    rw [← Nat.pow_add] at h2
    exact_mod_cast Nat.lt_of_le_of_lt h2 h1
  obtain ⟨n1, n2, _⟩ := near_pos hm hK l1 (B := g) (by omega) l2
  obtain ⟨m1, m2⟩ := near_rat n1 n2
  have hu := ur_pos
  have e1 : (((2 : Int) ^ ub : Int) : Rat) = ur := cast_pow2 ub
  rw [Rat.intCast_mul, rv_ur x, rv_ur y, rv_ur r, e1] at m1 m2
  have hu2 : 0 < ur * ur := Rat.mul_pos hu hu
  constructor
  · refine rle_cancel hu2 ?_
    grind
  · refine rle_cancel hu2 ?_
    grind
theorem quo_rv {x y r : Nat} {A B C D : Nat} (hx : In x A B) (hy : In y C D) (hA : D + 52 ≤ A + 1074) (hB : B + 1074 ≤ C + 2000) (h : floatBits .quo .f64 x y = some r) : rv r * rv y ≤ (1 + ep) * rv x ∧ (1 - ep) * rv x ≤ rv r * rv y := by
  obtain ⟨r', h', hm⟩ := quo_mono (rung_fin hx.fin) (rung_fin hy.fin) hy.pos ub_eq
  obtain rfl : r = r' := by rw [h] at h'; exact Option.some.inj h'
  have hub := ub_eq
  have l1 : (2 : Int) ^ 52 * val y ≤ val x * 2 ^ ub := by
    rw [val_self hx.fin, val_self hy.fin, cast_pow, cast_pow]
    have h1 : 2 ^ 52 * mag y ≤ 2 ^ 52 * 2 ^ D := Nat.mul_le_mul_left _ hy.hi
    have h2 : 2 ^ A * 2 ^ ub ≤ mag x * 2 ^ ub := Nat.mul_le_mul_right _ hx.lo
    have h3 : 2 ^ 52 * 2 ^ D ≤ 2 ^ A * 2 ^ ub := by rw [← Nat.pow_add, ← Nat.pow_add]; exact Nat.pow_le_pow_right (by decide) (by omega)
    exact_mod_cast Nat.le_trans h1 (Nat.le_trans h3 h2)
  obtain ⟨g, hg⟩ : ∃ g, g = 2000 := ⟨_, rfl⟩
  have l2 : val x * 2 ^ ub < 2 ^ 53 * (2 ^ g * val y) := by
    rw [val_self hx.fin, val_self hy.fin, cast_pow, cast_pow, cast_pow]
    have h1 : mag x * 2 ^ ub ≤ 2 ^ B * 2 ^ ub := Nat.mul_le_mul_right _ hx.hi
    have h2 : 2 ^ 53 * (2 ^ g * 2 ^ C) ≤ 2 ^ 53 * (2 ^ g * mag y) := Nat.mul_le_mul_left _ (Nat.mul_le_mul_left _ hy.lo)
    have h3 : 2 ^ B * 2 ^ ub < 2 ^ 53 * (2 ^ g * 2 ^ C) := by rw [← Nat.pow_add, ← Nat.pow_add, ← Nat.pow_add]; exact Nat.pow_lt_pow_right (by decide) (by omega)
    exact_mod_cast Nat.lt_of_le_of_lt h1 (Nat.lt_of_lt_of_le h3 h2)
  obtain ⟨n1, n2, _⟩ := near_pos hm hy.pos l1 (B := g) (by omega) l2
  obtain ⟨m1, m2⟩ := near_rat n1 n2
  have hu := ur_pos
  have e1 : (((2 : Int) ^ ub : Int) : Rat) = ur := cast_pow2 ub
  rw [Rat.intCast_mul, rv_ur x, rv_ur y, rv_ur r, e1] at m1 m2
  have hu2 : 0 < ur * ur := Rat.mul_pos hu hu
  constructor
  · refine rle_cancel hu2 ?_
    grind
  · refine rle_cancel hu2 ?_
    grind
end Go.Fl
