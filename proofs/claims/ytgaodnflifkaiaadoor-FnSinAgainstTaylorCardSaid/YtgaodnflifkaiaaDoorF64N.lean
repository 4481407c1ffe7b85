/- Rounding: what is written is the nearest; it is monotone; its error. No program in sight. -/
import Derived.Test.YtgaodnflifkaiaaDoorF64D
namespace Go.Fl
open Ieee

theorem cut_spec (s : Bool) (n d : Nat) : 2 * n ≤ 2 * (Toward.even.cut s n d * 2 ^ d) + 2 ^ d ∧ 2 * (Toward.even.cut s n d * 2 ^ d) ≤ 2 * n + 2 ^ d := by
  by_cases h : d ≤ n.log2 + 2
  · have hq : Toward.even.cut s n d = n / 2 ^ d + (decide (2 ^ d < 2 * (n % 2 ^ d)) || (2 ^ d == 2 * (n % 2 ^ d) && n / 2 ^ d % 2 == 1)).toNat := by
      unfold Toward.cut
      simp only [Nat.min_eq_left h, Nat.one_shiftLeft]
    rw [hq]
    have h1 := Nat.div_add_mod n (2 ^ d)
    have h2 := Nat.mod_lt n (Nat.two_pow_pos d)
    generalize 2 ^ d = G at *
    generalize n % G = r at *
    generalize n / G = l at *
    rw [Nat.mul_comm] at h1
    cases hc : (decide (G < 2 * r) || (G == 2 * r && l % 2 == 1)) with
    | true =>
      have : G ≤ 2 * r := by
        rcases Bool.or_eq_true_iff.1 hc with h | h
        · have := of_decide_eq_true h; omega
        · have := (Bool.and_eq_true_iff.1 h).1; have := (beq_iff_eq.1 this); omega
      show 2 * n ≤ 2 * ((l + 1) * G) + G ∧ 2 * ((l + 1) * G) ≤ 2 * n + G
      have e : (l + 1) * G = l * G + G := Nat.succ_mul l G
      rw [e]
      omega
    | false =>
      have : 2 * r ≤ G := by
        have h := (Bool.or_eq_false_iff.1 hc).1
        have := of_decide_eq_false h; omega
      show 2 * n ≤ 2 * ((l + 0) * G) + G ∧ 2 * ((l + 0) * G) ≤ 2 * n + G
      rw [Nat.add_zero]
      omega
  · have h1 : n < 2 ^ (n.log2 + 1) := Nat.lt_log2_self
    have h2 : 2 ^ (n.log2 + 2) = 2 * 2 ^ (n.log2 + 1) := by rw [Nat.pow_succ]; omega
    have h3 : 2 ^ (n.log2 + 2) ≤ 2 ^ d := Nat.pow_le_pow_right (by decide) (by omega)
    have hq : Toward.even.cut s n d = 0 := by
      unfold Toward.cut
      simp only [Nat.min_eq_right (show n.log2 + 2 ≤ d by omega), Nat.one_shiftLeft]
      rw [Nat.div_eq_of_lt (by omega), Nat.mod_eq_of_lt (by omega)]
      have e1 : decide (2 ^ (n.log2 + 2) < 2 * n) = false := decide_eq_false (by omega)
      simp [e1]
    rw [hq]
    omega

theorem mag_kq {k q : Nat} (h1 : k ≠ 0 → 2 ^ 52 ≤ q) (h2 : q ≤ 2 ^ 53) : mag (k * 2 ^ 52 + q) = q * 2 ^ k := by
  by_cases hk : k = 0
  · subst hk
    rw [Nat.zero_mul, Nat.zero_add, Nat.pow_zero, Nat.mul_one]
    unfold mag
    by_cases hq : q < 2 ^ 52
    · rw [if_pos hq]
    · rw [if_neg hq]
      by_cases h : q = 2 ^ 53
      · subst h; decide
      · have e1 : q / 2 ^ 52 - 1 = 0 := by omega
        have e2 : 2 ^ 52 + q % 2 ^ 52 = q := by omega
        rw [e1, e2]; omega
  · have hq := h1 hk
    unfold mag
    rw [if_neg (by omega)]
    by_cases h : q = 2 ^ 53
    · subst h
      have e1 : (k * 2 ^ 52 + 2 ^ 53) / 2 ^ 52 - 1 = k + 1 := by omega
      have e2 : 2 ^ 52 + (k * 2 ^ 52 + 2 ^ 53) % 2 ^ 52 = 2 ^ 52 := by omega
      rw [e1, e2, Nat.pow_succ]; omega
    · have e1 : (k * 2 ^ 52 + q) / 2 ^ 52 - 1 = k := by omega
      have e2 : 2 ^ 52 + (k * 2 ^ 52 + q) % 2 ^ 52 = q := by omega
      rw [e1, e2]

/-- What rounding is: digits q at place k. -/
structure Rnd (m : Nat) (p : Int) (k q : Nat) : Prop where
  eq : rnd m p = min (k * 2 ^ 52 + q) infR
  hi : q ≤ 2 ^ 53
  lo : k ≠ 0 → 2 ^ 52 ≤ q
  up : ∀ a b : Nat, (a : Int) - b = p + 1074 → 2 * (m * 2 ^ a) ≤ 2 * (q * 2 ^ (k + b)) + 2 ^ (k + b)
  dn : ∀ a b : Nat, (a : Int) - b = p + 1074 → 2 * (q * 2 ^ (k + b)) ≤ 2 * (m * 2 ^ a) + 2 ^ (k + b)
  ge : ∀ a b : Nat, (a : Int) - b = p + 1074 → k ≠ 0 → 2 ^ (52 + k + b) ≤ m * 2 ^ a
  lt : ∀ a b : Nat, (a : Int) - b = p + 1074 → m * 2 ^ a < 2 ^ (53 + k + b)

theorem rnd_is (m : Nat) (p : Int) (hm : m ≠ 0) : ∃ k q, Rnd m p k q := by
  obtain ⟨k, hk⟩ : ∃ k : Nat, max (p + m.log2 - 52) (-1074) = (k : Int) - 1074 := ⟨(max (p + m.log2 - 52) (-1074) + 1074).toNat, by omega⟩
  have h1 : 2 ^ m.log2 ≤ m := Nat.log2_self_le hm
  have h2 : m < 2 ^ (m.log2 + 1) := Nat.lt_log2_self
  obtain ⟨u, hu⟩ : ∃ u : Nat, (p - ((k : Int) - 1074)).toNat = u := ⟨_, rfl⟩
  obtain ⟨d, hd⟩ : ∃ d : Nat, ((k : Int) - 1074 - p).toNat = d := ⟨_, rfl⟩
  have hc := cut_spec false (m * 2 ^ u) d
  obtain ⟨q, hq⟩ : ∃ q, Toward.even.cut false (m * 2 ^ u) d = q := ⟨_, rfl⟩
  rw [hq] at hc
  have hge : ∀ a b : Nat, (a : Int) - b = p + 1074 → k ≠ 0 → 2 ^ (52 + k + b) ≤ m * 2 ^ a := fun a b hab hk0 => by
    have e : 52 + k + b = m.log2 + a := by omega
    rw [e, Nat.pow_add]; exact Nat.mul_le_mul_right _ h1
  have hlt : ∀ a b : Nat, (a : Int) - b = p + 1074 → m * 2 ^ a < 2 ^ (53 + k + b) := fun a b hab => by
    calc m * 2 ^ a < 2 ^ (m.log2 + 1) * 2 ^ a := Nat.mul_lt_mul_of_pos_right h2 (Nat.two_pow_pos _)
      _ = 2 ^ (m.log2 + 1 + a) := by rw [← Nat.pow_add]
      _ ≤ 2 ^ (53 + k + b) := Nat.pow_le_pow_right (by decide) (by omega)
  -- the same at the finer scale
  have sc : ∀ a b : Nat, (a : Int) - b = p + 1074 → ∃ c, a = u + c ∧ k + b = d + c := fun a b hab => ⟨a - u, by omega, by omega⟩
  have hup : ∀ a b : Nat, (a : Int) - b = p + 1074 → 2 * (m * 2 ^ a) ≤ 2 * (q * 2 ^ (k + b)) + 2 ^ (k + b) := fun a b hab => by
    obtain ⟨c, e1, e2⟩ := sc a b hab
    rw [e1, e2, Nat.pow_add, Nat.pow_add, ← Nat.mul_assoc, ← Nat.mul_assoc, ← Nat.mul_assoc, ← Nat.mul_assoc, ← Nat.add_mul]
    exact Nat.mul_le_mul_right _ (by rw [Nat.mul_assoc, Nat.mul_assoc]; exact hc.1)
  have hdn : ∀ a b : Nat, (a : Int) - b = p + 1074 → 2 * (q * 2 ^ (k + b)) ≤ 2 * (m * 2 ^ a) + 2 ^ (k + b) := fun a b hab => by
    obtain ⟨c, e1, e2⟩ := sc a b hab
    rw [e1, e2, Nat.pow_add, Nat.pow_add, ← Nat.mul_assoc, ← Nat.mul_assoc, ← Nat.mul_assoc, ← Nat.mul_assoc, ← Nat.add_mul]
    exact Nat.mul_le_mul_right _ (by rw [Nat.mul_assoc, Nat.mul_assoc]; exact hc.2)
  obtain ⟨a, b, hab⟩ : ∃ a b : Nat, (a : Int) - b = p + 1074 := ⟨(p + 1074).toNat, (-(p + 1074)).toNat, by omega⟩
  refine ⟨k, q, ?_, ?_, ?_, hup, hdn, hge, hlt⟩
  · unfold rnd
    rw [if_neg hm]
    simp only [hk, Nat.shiftLeft_eq, hu, hd, hq]
    rw [show ((k : Int) - 1074 + 1074).toNat = k by omega]
  · have h3 := hdn a b hab
    have h4 := hlt a b hab
    rw [show 53 + k + b = 53 + (k + b) by omega, Nat.pow_add] at h4
    have hp := Nat.two_pow_pos (k + b)
    generalize 2 ^ (k + b) = G at *
    generalize m * 2 ^ a = M at *
    apply Nat.le_of_not_lt
    intro hlt
    have : (2 ^ 53 + 1) * G ≤ q * G := Nat.mul_le_mul_right _ hlt
    rw [Nat.add_mul, Nat.one_mul] at this
    omega
  · intro hk0
    have h3 := hup a b hab
    have h4 := hge a b hab hk0
    rw [show 52 + k + b = 52 + (k + b) by omega, Nat.pow_add] at h4
    have hp := Nat.two_pow_pos (k + b)
    generalize 2 ^ (k + b) = G at *
    generalize m * 2 ^ a = M at *
    apply Nat.le_of_not_lt
    intro hlt
    have : (q + 1) * G ≤ 2 ^ 52 * G := Nat.mul_le_mul_right _ hlt
    rw [Nat.add_mul, Nat.one_mul] at this
    omega

theorem Rnd.mag {m : Nat} {p : Int} {k q : Nat} (h : Rnd m p k q) : Fl.mag (k * 2 ^ 52 + q) = q * 2 ^ k := mag_kq h.lo h.hi

/-- Rounding is monotone: against a rung from below .. -/
theorem rnd_ge {m r a b : Nat} {p : Int} (hr : r ≤ infR) (hp : (a : Int) - b = p + 1074) (h : mag r * 2 ^ b ≤ m * 2 ^ a) : r ≤ rnd m p := by
  by_cases hm : m = 0
  · subst hm
    rw [Nat.zero_mul] at h
    have : mag r = 0 := by
      have := Nat.two_pow_pos b
      rcases Nat.mul_eq_zero.1 (Nat.le_zero.1 h) with h | h <;> omega
    have : r = 0 := mag_inj (this.trans mag_zero.symm)
    omega
  · obtain ⟨k, q, hs⟩ := rnd_is m p hm
    rw [hs.eq]
    refine Nat.le_min.2 ⟨?_, hr⟩
    apply Nat.le_of_not_lt
    intro hlt
    have hM := hs.mag
    have hu := hs.up a b hp
    have hl := hs.lt a b hp
    have hG := Nat.two_pow_pos (k + b)
    have hlt' : mag (k * 2 ^ 52 + q) < mag r := mag_lt hlt
    rw [hM] at hlt'
    by_cases hq : q = 2 ^ 53
    · have h1 : q * 2 ^ k * 2 ^ b < mag r * 2 ^ b := Nat.mul_lt_mul_of_pos_right hlt' (Nat.two_pow_pos b)
      rw [hq, ← Nat.pow_add, ← Nat.pow_add] at h1
      omega
    · have h2 : mag (k * 2 ^ 52 + (q + 1)) ≤ mag r := by
        rcases Nat.lt_or_ge (k * 2 ^ 52 + (q + 1)) r with h | h
        · exact Nat.le_of_lt (mag_lt h)
        · rw [show k * 2 ^ 52 + (q + 1) = r by omega]; exact Nat.le_refl _
      rw [mag_kq (fun hk => by have := hs.lo hk; omega) (by have := hs.hi; omega)] at h2
      have h3 : (q + 1) * 2 ^ k * 2 ^ b ≤ mag r * 2 ^ b := Nat.mul_le_mul_right _ h2
      rw [Nat.mul_assoc, ← Nat.pow_add, Nat.add_mul, Nat.one_mul] at h3
      omega
/-- .. and from above. -/
theorem rnd_le' {m r a b : Nat} {p : Int} (hp : (a : Int) - b = p + 1074) (h : m * 2 ^ a ≤ mag r * 2 ^ b) : rnd m p ≤ r := by
  by_cases hm : m = 0
  · subst hm; rw [rnd_zero]; exact Nat.zero_le _
  · obtain ⟨k, q, hs⟩ := rnd_is m p hm
    apply Nat.le_of_not_lt
    intro hlt
    have hR : r < k * 2 ^ 52 + q := Nat.lt_of_lt_of_le hlt (by rw [hs.eq]; exact Nat.min_le_left _ _)
    have hM := hs.mag
    have hd := hs.dn a b hp
    have hG := Nat.two_pow_pos (k + b)
    by_cases hq : k ≠ 0 ∧ q = 2 ^ 52
    · have h1 := hs.ge a b hp hq.1
      have h2 := mag_lt hR
      rw [hM] at h2
      have h3 : mag r * 2 ^ b < q * 2 ^ k * 2 ^ b := Nat.mul_lt_mul_of_pos_right h2 (Nat.two_pow_pos b)
      rw [hq.2, ← Nat.pow_add, ← Nat.pow_add] at h3
      omega
    · have hq0 : 0 < q := by
        rcases Nat.eq_zero_or_pos q with h0 | h0
        · by_cases hk : k = 0
          · subst h0; subst hk; omega
          · have := hs.lo hk; omega
        · exact h0
      have h2 : mag r ≤ mag (k * 2 ^ 52 + (q - 1)) := by
        rcases Nat.lt_or_ge r (k * 2 ^ 52 + (q - 1)) with h | h
        · exact Nat.le_of_lt (mag_lt h)
        · rw [show k * 2 ^ 52 + (q - 1) = r by omega]; exact Nat.le_refl _
      rw [mag_kq (fun hk => by have := hs.lo hk; have : q ≠ 2 ^ 52 := fun e => hq ⟨hk, e⟩; omega) (by have := hs.hi; omega)] at h2
      have h3 : mag r * 2 ^ b ≤ (q - 1) * 2 ^ k * 2 ^ b := Nat.mul_le_mul_right _ h2
      rw [Nat.mul_assoc, ← Nat.pow_add, Nat.sub_mul, Nat.one_mul] at h3
      have h4 : 2 ^ (k + b) ≤ q * 2 ^ (k + b) := Nat.le_mul_of_pos_left _ hq0
      omega
end Go.Fl
