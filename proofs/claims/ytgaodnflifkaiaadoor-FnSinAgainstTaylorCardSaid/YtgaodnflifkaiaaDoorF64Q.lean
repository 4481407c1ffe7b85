/- Positive words between powers of two; the sum, the product, the quotient of such. No program in sight. -/
import Derived.Test.YtgaodnflifkaiaaDoorF64O
namespace Go.Fl
open Ieee
set_option linter.unusedVariables false

theorem rung_self {x : Nat} (h : x < infR) : rung x = x := by unfold rung infR at *; omega
theorem neg_self {x : Nat} (h : x < infR) : neg x = false := by
  unfold neg infR at *
  have : x / 2 ^ 63 = 0 := by omega
  rw [this]; rfl
theorem val_self {x : Nat} (h : x < infR) : val x = (mag x : Int) := by unfold val; rw [neg_self h, rung_self h]; simp
theorem key_self {x : Nat} (h : x < infR) : key x = (x : Int) := by unfold key; rw [neg_self h, rung_self h]; simp
theorem rung_fin {x : Nat} (h : x < infR) : rung x < infR := by rw [rung_self h]; exact h
theorem mag_le {r s : Nat} (h : r ≤ s) : mag r ≤ mag s := by
  rcases Nat.lt_or_eq_of_le h with h | h
  · exact Nat.le_of_lt (mag_lt h)
  · rw [h]; exact Nat.le_refl _
theorem le_of_mag {r s : Nat} (h : mag r ≤ mag s) : r ≤ s := by
  apply Nat.le_of_not_lt; intro hlt; have := mag_lt hlt; omega
/-- The negative of a positive word. -/
theorem neg_word {x : Nat} (h : x < infR) : Op.negFloat .f64 x = 2 ^ 63 + x ∧ rung (Op.negFloat .f64 x) = x ∧ val (Op.negFloat .f64 x) = -(mag x : Int) ∧ key (Op.negFloat .f64 x) = -(x : Int) := by
  have hx : x < 2 ^ 64 := by unfold infR at h; omega
  have hr : rung (Op.negFloat .f64 x) = x := by rw [rung_neg hx, rung_self h]
  refine ⟨?_, hr, ?_, ?_⟩
  · rw [negFloat_eq hx, neg_self h, rung_self h]; rfl
  · unfold val; rw [neg_neg hx, neg_self h, hr]; simp
  · rw [key_neg hx, key_self h]

/-- A word above a positive number and under a finite one is that of a positive finite number. -/
theorem pos_of_key {r z : Nat} (hr : r < 2 ^ 64) (hn : nan r = false) (h0 : 0 < key r) (hz : z < infR) (h : key r ≤ key z) : r < infR ∧ r ≤ z := by
  rw [key_self hz] at h
  have hs : neg r = false := by
    unfold key at h0
    cases hs : neg r with
    | false => rfl
    | true => rw [hs] at h0; simp only [if_true] at h0; omega
  have hk : key r = (rung r : Int) := by unfold key; rw [hs]; simp
  have hw : wd (neg r) (rung r) = r := wd_self hr
  rw [hs] at hw
  have : rung r = r := by simpa [wd] using hw
  omega

/-- A positive finite word between two powers of two, in units of the least number. -/
structure In (x A B : Nat) : Prop where
  fin : x < infR
  lo : 2 ^ A ≤ mag x
  hi : mag x ≤ 2 ^ B

section
variable {x y A B C D : Nat}
theorem In.pos (h : In x A B) : 0 < val x := by
  rw [val_self h.fin]
  have := Nat.two_pow_pos A
  have := h.lo
  omega
theorem In.le (h : In x A B) : A ≤ B := by
  apply Nat.le_of_not_lt; intro hlt
  have h1 : 2 ^ B < 2 ^ A := Nat.pow_lt_pow_right (by decide) hlt
  have := h.lo; have := h.hi; omega
theorem In.wide (h : In x A B) (h1 : C ≤ A) (h2 : B ≤ D) : In x C D :=
  ⟨h.fin, Nat.le_trans (Nat.pow_le_pow_right (by decide) h1) h.lo, Nat.le_trans h.hi (Nat.pow_le_pow_right (by decide) h2)⟩
theorem In.word_pos (h : In x A B) : 0 < x := by
  apply Nat.pos_of_ne_zero; rintro rfl
  have := h.lo; rw [mag_zero] at this
  have := Nat.two_pow_pos A; omega
theorem cast_pow (a : Nat) : (2 : Int) ^ a = ((2 ^ a : Nat) : Int) := by push_cast; rfl
end

/-- A normal word. -/
theorem in_normal {x e : Nat} (h : x < infR) (he : x / 2 ^ 52 = e + 1) : In x (52 + e) (53 + e) := by
  have h1 : ¬ x < 2 ^ 52 := by omega
  have hm : mag x = (2 ^ 52 + x % 2 ^ 52) * 2 ^ e := by
    unfold mag; rw [if_neg h1, he]; rfl
  refine ⟨h, ?_, ?_⟩
  · rw [hm, Nat.pow_add]; exact Nat.mul_le_mul_right _ (by omega)
  · rw [hm, Nat.pow_add]; exact Nat.mul_le_mul_right _ (by omega)
theorem mag_normal {x e : Nat} (he : x / 2 ^ 52 = e + 1) : mag x = (2 ^ 52 + x % 2 ^ 52) * 2 ^ e := by
  unfold mag; rw [if_neg (by omega), he]; rfl

theorem in_of_mono {V K : Int} {r A B : Nat} (h : Mono V K r) (hK : 0 < K) (hB : B ≤ 2044) (h1 : (2 : Int) ^ A * K ≤ V) (h2 : V ≤ (2 : Int) ^ B * K) : In r A B := by
  have hAB : A ≤ B := by
    apply Nat.le_of_not_lt; intro hlt
    have h3 : (2 : Int) ^ B < 2 ^ A := by rw [cast_pow, cast_pow]; have := Nat.pow_lt_pow_right (a := 2) (by decide) hlt; omega
    have := Int.mul_lt_mul_of_pos_right h3 hK
    omega
  obtain ⟨p, hp, ep⟩ := exists_rung 1 A (by decide) (by omega)
  obtain ⟨q, hq, eq⟩ := exists_rung 1 B (by decide) (by omega)
  rw [Nat.one_mul] at ep eq
  have k1 := h.ge p (rung_fin hp) (by rw [val_self hp, ep, ← cast_pow]; exact h1)
  have k2 := h.le q (rung_fin hq) (by rw [val_self hq, eq, ← cast_pow]; exact h2)
  have hp0 : 0 < p := by
    apply Nat.pos_of_ne_zero; rintro rfl
    rw [mag_zero] at ep; have := Nat.two_pow_pos A; omega
  rw [key_self hp] at k1
  obtain ⟨f1, f2⟩ := pos_of_key h.lt h.num (by omega) hq k2
  rw [key_self f1] at k1
  exact ⟨f1, by rw [← ep]; exact mag_le (by omega), by rw [← eq]; exact mag_le f2⟩

section
variable {x y A B C D E F u : Nat}
theorem In.mul (hx : In x A B) (hy : In y C D) (hu : u = 1074) (hE : E + u = A + C) (hF : F + u = B + D) (hF2 : F ≤ 2044) : ∃ z, floatBits .mul .f64 x y = some z ∧ In z E F := by
  obtain ⟨z, hz, hm⟩ := mul_mono (rung_fin hx.fin) (rung_fin hy.fin) hu
  refine ⟨z, hz, in_of_mono hm (Int.pow_pos (by decide)) hF2 ?_ ?_⟩
  · rw [val_self hx.fin, val_self hy.fin, ← Int.pow_add, hE, Int.pow_add, cast_pow, cast_pow]
    exact_mod_cast Nat.mul_le_mul hx.lo hy.lo
  · rw [val_self hx.fin, val_self hy.fin, ← Int.pow_add, hF, Int.pow_add, cast_pow, cast_pow]
    exact_mod_cast Nat.mul_le_mul hx.hi hy.hi
theorem In.quo (hx : In x A B) (hy : In y C D) (hu : u = 1074) (hE : E + D = A + u) (hF : F + C = B + u) (hF2 : F ≤ 2044) : ∃ z, floatBits .quo .f64 x y = some z ∧ In z E F := by
  obtain ⟨z, hz, hm⟩ := quo_mono (rung_fin hx.fin) (rung_fin hy.fin) hy.pos hu
  refine ⟨z, hz, in_of_mono hm hy.pos hF2 ?_ ?_⟩
  · rw [val_self hx.fin, val_self hy.fin, cast_pow, cast_pow]
    have : 2 ^ E * mag y ≤ mag x * 2 ^ u := by
      calc 2 ^ E * mag y ≤ 2 ^ E * 2 ^ D := Nat.mul_le_mul_left _ hy.hi
        _ = 2 ^ A * 2 ^ u := by rw [← Nat.pow_add, ← Nat.pow_add, hE]
        _ ≤ _ := Nat.mul_le_mul_right _ hx.lo
    exact_mod_cast this
  · rw [val_self hx.fin, val_self hy.fin, cast_pow, cast_pow]
    have : mag x * 2 ^ u ≤ 2 ^ F * mag y := by
      calc mag x * 2 ^ u ≤ 2 ^ B * 2 ^ u := Nat.mul_le_mul_right _ hx.hi
        _ = 2 ^ F * 2 ^ C := by rw [← Nat.pow_add, ← Nat.pow_add, hF]
        _ ≤ _ := Nat.mul_le_mul_left _ hy.lo
    exact_mod_cast this
/-- A sum of positive words is at least each. -/
theorem In.add (hx : In x A B) (hy : In y C D) (hF : B + 1 ≤ F) (hF' : D + 1 ≤ F) (hF2 : F ≤ 2044) : ∃ z, floatBits .add .f64 x y = some z ∧ In z A F ∧ x ≤ z ∧ y ≤ z ∧ Mono (val x + val y) 1 z := by
  obtain ⟨z, hz, hm⟩ := add_mono (rung_fin hx.fin) (rung_fin hy.fin)
  have hi : In z A F := by
    refine in_of_mono hm (by decide) hF2 ?_ ?_
    · rw [val_self hx.fin, val_self hy.fin, cast_pow]
      have := hx.lo; omega
    · rw [val_self hx.fin, val_self hy.fin, cast_pow]
      have h1 := hx.hi
      have h2 := hy.hi
      have h3 : 2 ^ B ≤ 2 ^ (F - 1) := Nat.pow_le_pow_right (by decide) (by omega)
      have h4 : 2 ^ D ≤ 2 ^ (F - 1) := Nat.pow_le_pow_right (by decide) (by omega)
      have h5 : 2 ^ F = 2 * 2 ^ (F - 1) := by rw [← Nat.pow_succ']; congr 1; omega
      omega
  have px := hx.pos
  have py := hy.pos
  have k1 := hm.ge x (rung_fin hx.fin) (by omega)
  have k2 := hm.ge y (rung_fin hy.fin) (by omega)
  rw [key_self hx.fin, key_self hi.fin] at k1
  rw [key_self hy.fin, key_self hi.fin] at k2
  exact ⟨z, hz, hi, by omega, by omega, hm⟩
end
end Go.Fl
