/- The sum, the product, the quotient of finite words are monotone: against every finite word. No program in sight. -/
import Derived.Test.YtgaodnflifkaiaaDoorF64N
namespace Go.Fl
open Ieee
set_option linter.unusedVariables false

theorem key_wd (s : Bool) {r : Nat} (h : r < 2 ^ 63) : key (wd s r) = if s then -(r : Int) else (r : Int) := by
  unfold key; rw [neg_wd s h, rung_wd s h]
theorem val_pos {z : Nat} (h : 0 < val z) : neg z = false ∧ val z = (mag (rung z) : Int) ∧ key z = (rung z : Int) := by
  unfold val key at *
  cases hn : neg z with
  | true => rw [hn] at h; simp only [if_true] at h; omega
  | false => simp
theorem val_neg {z : Nat} (h : val z < 0) : neg z = true ∧ val z = -(mag (rung z) : Int) ∧ key z = -(rung z : Int) := by
  unfold val key at *
  cases hn : neg z with
  | false => rw [hn] at h; simp only [Bool.false_eq_true, if_false] at h; omega
  | true => simp
theorem key_le_of_val_le {x y : Nat} (h : val x ≤ val y) : key x ≤ key y := by
  apply Int.le_of_not_gt
  intro hk
  have := (val_lt_iff y x).2 hk
  omega
theorem val_le_of_key_le {x y : Nat} (h : key x ≤ key y) : val x ≤ val y := by
  apply Int.le_of_not_gt
  intro hk
  have := (val_lt_iff y x).1 hk
  omega
theorem val_zero : val 0 = 0 := by unfold val; simp [rung, mag_zero]
theorem key_zero : key 0 = 0 := by unfold key; simp [rung]
theorem key_nonneg_iff (z : Nat) : 0 ≤ key z ↔ 0 ≤ val z := by
  constructor
  · intro h; have := val_le_of_key_le (x := 0) (y := z) (by rw [key_zero]; exact h); rw [val_zero] at this; exact this
  · intro h; have := key_le_of_val_le (x := 0) (y := z) (by rw [val_zero]; exact h); rw [key_zero] at this; exact this
theorem key_nonpos_iff (z : Nat) : key z ≤ 0 ↔ val z ≤ 0 := by
  constructor
  · intro h; have := val_le_of_key_le (x := z) (y := 0) (by rw [key_zero]; exact h); rw [val_zero] at this; exact this
  · intro h; have := key_le_of_val_le (x := z) (y := 0) (by rw [val_zero]; exact h); rw [key_zero] at this; exact this

theorem rung_zero_of_val {z : Nat} (h : val z = 0) : rung z = 0 := by
  have h1 : (mag (rung z) : Int) = 0 := by
    unfold val at h
    cases hn : neg z <;> rw [hn] at h <;> simp only [Bool.false_eq_true, if_false, if_true] at h <;> omega
  exact mag_inj (by rw [mag_zero]; omega)
theorem key_le_rung (z : Nat) : key z ≤ (rung z : Int) := by unfold key; split <;> omega
theorem neg_rung_le_key (z : Nat) : -(rung z : Int) ≤ key z := by unfold key; split <;> omega
theorem mag_of_nonpos {z : Nat} (h : val z ≤ 0) : val z = -(mag (rung z) : Int) ∧ key z = -(rung z : Int) := by
  rcases Int.lt_or_eq_of_le h with h | h
  · exact (val_neg h).2
  · have h0 := rung_zero_of_val h
    refine ⟨by rw [h, h0, mag_zero]; rfl, ?_⟩
    have := (val_eq_iff z 0).1 (by rw [h, val_zero])
    rw [this, key_zero, h0]; rfl
theorem mag_of_nonneg {z : Nat} (h : 0 ≤ val z) : val z = (mag (rung z) : Int) ∧ key z = (rung z : Int) := by
  rcases Int.lt_or_eq_of_le h with h | h
  · exact (val_pos h).2
  · have h0 := rung_zero_of_val h.symm
    refine ⟨by rw [← h, h0, mag_zero]; rfl, ?_⟩
    have := (val_eq_iff z 0).1 (by rw [← h, val_zero])
    rw [this, key_zero, h0]; rfl

/-- r is where the exact number V / K is, against every finite word. -/
structure Mono (V K : Int) (r : Nat) : Prop where
  lt : r < 2 ^ 64
  num : nan r = false
  ge : ∀ z, rung z < infR → val z * K ≤ V → key z ≤ key r
  le : ∀ z, rung z < infR → V ≤ val z * K → key r ≤ key z

theorem mono_crit {s : Bool} {m : Nat} {p V K : Int} (hK : 0 < K) (hs : if s then V ≤ 0 else 0 ≤ V)
    (hA : ∀ r, r < infR → (mag r : Int) * K ≤ (V.natAbs : Int) → r ≤ rnd m p) (hB : ∀ r, r < infR → (V.natAbs : Int) ≤ (mag r : Int) * K → rnd m p ≤ r) : Mono V K (wd s (rnd m p)) := by
  have hl := rnd_lt m p
  have sgn : ∀ v : Int, v * K ≤ 0 → v ≤ 0 := fun v h => by
    apply Int.le_of_not_gt; intro h'
    have := Int.mul_pos h' hK; omega
  have sgn' : ∀ v : Int, 0 ≤ v * K → 0 ≤ v := fun v h => by
    apply Int.le_of_not_gt; intro h'
    have := Int.mul_neg_of_neg_of_pos h' hK; omega
  refine ⟨wd_lt s hl, nan_wd_rnd s m p, fun z hz h => ?_, fun z hz h => ?_⟩
  · rw [key_wd s hl]
    cases s with
    | false =>
      simp only [Bool.false_eq_true, if_false] at hs ⊢
      rcases Int.lt_or_le 0 (val z) with hv | hv
      · obtain ⟨_, e1, e2⟩ := val_pos hv
        have := hA (rung z) hz (by rw [← e1]; omega)
        omega
      · have := (key_nonpos_iff z).2 hv; omega
    | true =>
      simp only [if_true] at hs ⊢
      obtain ⟨e1, e2⟩ := mag_of_nonpos (sgn _ (Int.le_trans h hs))
      have := hB (rung z) hz (by have e3 : (mag (rung z) : Int) * K = -(val z * K) := by rw [e1, Int.neg_mul, Int.neg_neg]
                                 omega)
      omega
  · rw [key_wd s hl]
    cases s with
    | true =>
      simp only [if_true] at hs ⊢
      rcases Int.lt_or_le (val z) 0 with hv | hv
      · obtain ⟨_, e1, e2⟩ := val_neg hv
        have := hA (rung z) hz (by have e3 : (mag (rung z) : Int) * K = -(val z * K) := by rw [e1, Int.neg_mul, Int.neg_neg]
                                   omega)
        omega
      · have := (key_nonneg_iff z).2 hv; omega
    | false =>
      simp only [Bool.false_eq_true, if_false] at hs ⊢
      obtain ⟨e1, e2⟩ := mag_of_nonneg (sgn' _ (Int.le_trans hs h))
      have := hB (rung z) hz (by rw [← e1]; omega)
      omega

theorem add_mono {x y : Nat} (hx : rung x < infR) (hy : rung y < infR) : ∃ r, floatBits .add .f64 x y = some r ∧ Mono (val x + val y) 1 r := by
  obtain ⟨T, c, hT, e⟩ := add_fin hx hy
  refine ⟨_, e, mono_crit (by decide) ?_ (fun r hr h => ?_) (fun r hr h => ?_)⟩
  · by_cases h0 : val x + val y = 0
    · rw [if_pos h0]; split <;> omega
    · rw [if_neg h0]
      by_cases h : val x + val y < 0
      · rw [decide_eq_true h, if_pos rfl]; omega
      · rw [decide_eq_false h, if_neg (by decide)]; omega
  · refine rnd_ge (a := c) (b := 0) (Nat.le_of_lt hr) (by omega) ?_
    rw [← natAbs_mul_pow, hT]; omega
  · refine rnd_le' (a := c) (b := 0) (by omega) ?_
    rw [← natAbs_mul_pow, hT]; omega

theorem signed_nat (s : Bool) (m k : Nat) : (signed s m k).natAbs = m * 2 ^ k := by
  rw [signed_eq]
  have : (m : Int) * 2 ^ k = ((m * 2 ^ k : Nat) : Int) := by push_cast; rfl
  rw [this]
  split
  · rw [Int.natAbs_neg, Int.natAbs_natCast]
  · rw [Int.natAbs_natCast]
theorem signed_prod (s t : Bool) (m n k l : Nat) : signed s m k * signed t n l = signed (s ^^ t) (m * n) (k + l) := by
  simp only [signed_eq]
  push_cast
  rw [Int.pow_add]
  cases s <;> cases t <;> simp [Int.neg_mul, Int.mul_neg] <;> ac_rfl
theorem signed_sign (s : Bool) (m k : Nat) : if s then signed s m k ≤ 0 else 0 ≤ signed s m k := by
  rw [signed_eq]
  have : (m : Int) * 2 ^ k = ((m * 2 ^ k : Nat) : Int) := by push_cast; rfl
  rw [this]
  have h0 : (0 : Int) ≤ ((m * 2 ^ k : Nat) : Int) := Int.natCast_nonneg _
  generalize ((m * 2 ^ k : Nat) : Int) = X at *
  cases s <;> simp only [Bool.false_eq_true, if_false, if_true] <;> omega

theorem mul_mono {x y : Nat} (hx : rung x < infR) (hy : rung y < infR) {b : Nat} (hb : b = 1074) : ∃ r, floatBits .mul .f64 x y = some r ∧ Mono (val x * val y) (2 ^ b) r := by
  obtain ⟨m, k, ex, hm⟩ := read_val hx
  obtain ⟨n, l, ey, hn⟩ := read_val hy
  have hV : val x * val y = signed (neg x ^^ neg y) (m * n) (k + l) := by rw [← hm, ← hn, signed_prod]
  refine ⟨wd (neg x ^^ neg y) (rnd (m * n) ((-1074 + (k : Int)) + (-1074 + (l : Int)))), ?_, ?_⟩
  · rw [fb_mul, ex, ey]
    simp only [Datum.product, Option.map_some, write_number]
  · rw [hV]
    have hp : (2 : Int) ^ b = ((2 ^ b : Nat) : Int) := by push_cast; rfl
    refine mono_crit (Int.pow_pos (by decide)) (signed_sign _ _ _) (fun r hr h => ?_) (fun r hr h => ?_)
    · refine rnd_ge (a := k + l) (b := b) (Nat.le_of_lt hr) (by omega) ?_
      rw [signed_nat, hp] at h
      exact_mod_cast h
    · refine rnd_le' (a := k + l) (b := b) (by omega) ?_
      rw [signed_nat, hp] at h
      exact_mod_cast h

/-- A rung's digits. -/
theorem mag_digits {r : Nat} (h : r < infR) : ∃ f c : Nat, mag r = f * 2 ^ c ∧ f < 2 ^ 53 := by
  by_cases h1 : r < 2 ^ 52
  · exact ⟨r, 0, by unfold mag; rw [if_pos h1]; omega, by omega⟩
  · exact ⟨2 ^ 52 + r % 2 ^ 52, r / 2 ^ 52 - 1, by unfold mag; rw [if_neg h1], by omega⟩

theorem quo_mono {x y : Nat} (hx : rung x < infR) (hy : rung y < infR) (hy0 : 0 < val y) {b : Nat} (hb : b = 1074) : ∃ r, floatBits .quo .f64 x y = some r ∧ Mono (val x * 2 ^ b) (val y) r := by
  obtain ⟨m, k, ex, hm, hm53, _⟩ := read_fin hx
  obtain ⟨n, l, ey, hn, _⟩ := read_fin hy
  obtain ⟨hyn, hyv, _⟩ := val_pos hy0
  rw [hyn] at ey
  have hyv' : val y = ((n * 2 ^ l : Nat) : Int) := by rw [hyv, hn]
  have hn0 : n ≠ 0 := by rintro rfl; rw [hyv', Nat.zero_mul] at hy0; omega
  have hxv : (val x * 2 ^ b).natAbs = m * 2 ^ (k + b) := by
    rw [val_of, natAbs_mul_pow, signed_nat, ← hm, Nat.pow_zero, Nat.mul_one, Nat.pow_add, Nat.mul_assoc]
  obtain ⟨more, hmore⟩ : ∃ more, more = 54 + n.log2 - m.log2 := ⟨_, rfl⟩
  obtain ⟨Q, hQ⟩ : ∃ Q, Q = 2 * (m * 2 ^ more / n) + (m * 2 ^ more % n != 0).toNat := ⟨_, rfl⟩
  refine ⟨wd (neg x) (rnd Q (-1074 + (k : Int) - (-1074 + (l : Int)) - more - 1)), ?_, ?_⟩
  · rw [fb_quo, ex, ey]
    simp only [Datum.quotient, if_neg hn0, Option.map_some, write_number, Nat.shiftLeft_eq, Bool.xor_false]
    rw [← hmore, ← hQ]
  · -- the digits that are kept are enough
    have hq1 : 2 * (m * 2 ^ more / n) ≤ Q := by rw [hQ]; exact Nat.le_add_right _ _
    have hq2 : ∀ g, m * 2 ^ more ≤ g * n → Q ≤ 2 * g := fun g hg => by
      rw [hQ]
      have h1 := Nat.div_add_mod (m * 2 ^ more) n
      cases hz : (m * 2 ^ more % n != 0) with
      | false =>
        have h2 : m * 2 ^ more / n ≤ g := by
          exact Nat.div_le_of_le_mul (by rw [Nat.mul_comm n g]; exact hg)
        simp; omega
      | true =>
        have h0 : m * 2 ^ more % n ≠ 0 := by simpa using hz
        have h2 : m * 2 ^ more / n < g := by
          apply Nat.lt_of_not_le; intro hge
          have : g * n ≤ m * 2 ^ more / n * n := Nat.mul_le_mul_right _ hge
          rw [Nat.mul_comm n] at h1
          omega
        simp; omega
    have hbig : m ≠ 0 → 2 ^ 53 ≤ m * 2 ^ more / n := fun h0 => by
      have h1 : 2 ^ m.log2 ≤ m := Nat.log2_self_le h0
      have h2 : n < 2 ^ (n.log2 + 1) := Nat.lt_log2_self
      have h3 : m.log2 ≤ 52 := by have : m.log2 < 53 := (Nat.log2_lt h0).2 hm53; omega
      rw [Nat.le_div_iff_mul_le (by omega)]
      calc 2 ^ 53 * n ≤ 2 ^ 53 * 2 ^ (n.log2 + 1) := Nat.mul_le_mul_left _ (by omega)
        _ = 2 ^ (m.log2 + more) := by rw [← Nat.pow_add]; congr 1; omega
        _ = 2 ^ m.log2 * 2 ^ more := by rw [Nat.pow_add]
        _ ≤ m * 2 ^ more := Nat.mul_le_mul_right _ h1
    refine mono_crit hy0 ?_ (fun r hr h => ?_) (fun r hr h => ?_)
    · have h2 := signed_sign (neg x) (mag (rung x)) 0
      rw [← val_of] at h2
      have hp : (0 : Int) < 2 ^ b := Int.pow_pos (by decide)
      cases hs : neg x <;> rw [hs] at h2 <;> simp only [Bool.false_eq_true, if_false, if_true] at h2 ⊢
      · exact Int.mul_nonneg h2 (Int.le_of_lt hp)
      · have := Int.mul_nonneg (show 0 ≤ -val x by omega) (Int.le_of_lt hp)
        rw [Int.neg_mul] at this; omega
    · rw [hxv, hyv'] at h
      have h' : mag r * (n * 2 ^ l) ≤ m * 2 ^ (k + b) := by exact_mod_cast h
      by_cases hE : k + b ≤ l + more
      · obtain ⟨e, he⟩ : ∃ e, l + more = k + b + e := ⟨l + more - (k + b), by omega⟩
        refine rnd_ge (a := 0) (b := e + 1) (Nat.le_of_lt hr) (by omega) ?_
        have h1 : mag r * 2 ^ e * n ≤ m * 2 ^ more := by
          have h2 : mag r * (n * 2 ^ l) * 2 ^ more ≤ m * 2 ^ (k + b) * 2 ^ more := Nat.mul_le_mul_right _ h'
          have e1 : mag r * (n * 2 ^ l) * 2 ^ more = mag r * 2 ^ e * n * 2 ^ (k + b) := by
            calc mag r * (n * 2 ^ l) * 2 ^ more = mag r * n * (2 ^ l * 2 ^ more) := by ac_rfl
              _ = mag r * n * (2 ^ (k + b) * 2 ^ e) := by rw [← Nat.pow_add, ← Nat.pow_add, he]
              _ = _ := by ac_rfl
          have e2 : m * 2 ^ (k + b) * 2 ^ more = m * 2 ^ more * 2 ^ (k + b) := by ac_rfl
          rw [e1, e2] at h2
          exact Nat.le_of_mul_le_mul_right h2 (Nat.two_pow_pos _)
        have h3 : mag r * 2 ^ e ≤ m * 2 ^ more / n := (Nat.le_div_iff_mul_le (by omega)).2 h1
        rw [Nat.pow_succ, ← Nat.mul_assoc, Nat.pow_zero, Nat.mul_one]
        omega
      · obtain ⟨c, hc⟩ : ∃ c, k + b = l + more + 1 + c := ⟨k + b - (l + more + 1), by omega⟩
        refine rnd_ge (a := c) (b := 0) (Nat.le_of_lt hr) (by omega) ?_
        have h1 : mag r * n ≤ m * 2 ^ more * 2 * 2 ^ c := by
          have e1 : mag r * (n * 2 ^ l) = mag r * n * 2 ^ l := by ac_rfl
          have e2 : m * 2 ^ (k + b) = m * 2 ^ more * 2 * 2 ^ c * 2 ^ l := by
            rw [hc, Nat.pow_add, Nat.pow_add, Nat.pow_add, Nat.pow_one]; ac_rfl
          rw [e1, e2] at h'
          exact Nat.le_of_mul_le_mul_right h' (Nat.two_pow_pos _)
        rw [Nat.pow_zero, Nat.mul_one]
        by_cases hm0 : m = 0
        · subst hm0
          simp only [Nat.zero_mul] at h1
          rcases Nat.mul_eq_zero.1 (Nat.le_zero.1 h1) with h | h
          · rw [h]; exact Nat.zero_le _
          · omega
        · have hQb : 2 ^ 53 ≤ Q := by have := hbig hm0; omega
          obtain ⟨f, j, hf, hf53⟩ := mag_digits hr
          rw [hf]
          by_cases hj : c + 1 ≤ j
          · obtain ⟨d, rfl⟩ : ∃ d, j = d + 1 + c := ⟨j - (c + 1), by omega⟩
            have h2 : f * 2 ^ d * n ≤ m * 2 ^ more := by
              rw [hf] at h1
              have e1 : f * 2 ^ (d + 1 + c) * n = f * 2 ^ d * n * (2 * 2 ^ c) := by rw [Nat.pow_add, Nat.pow_add, Nat.pow_one]; ac_rfl
              rw [e1, Nat.mul_assoc (m * 2 ^ more)] at h1
              exact Nat.le_of_mul_le_mul_right h1 (Nat.mul_pos (by decide) (Nat.two_pow_pos _))
            have h3 : f * 2 ^ d ≤ m * 2 ^ more / n := (Nat.le_div_iff_mul_le (by omega)).2 h2
            have e2 : f * 2 ^ (d + 1 + c) = 2 * (f * 2 ^ d) * 2 ^ c := by rw [Nat.pow_add, Nat.pow_add, Nat.pow_one]; ac_rfl
            rw [e2]
            exact Nat.mul_le_mul_right _ (by omega)
          · calc f * 2 ^ j ≤ f * 2 ^ c := Nat.mul_le_mul_left _ (Nat.pow_le_pow_right (by decide) (by omega))
              _ ≤ Q * 2 ^ c := Nat.mul_le_mul_right _ (by omega)
    · rw [hxv, hyv'] at h
      have h' : m * 2 ^ (k + b) ≤ mag r * (n * 2 ^ l) := by exact_mod_cast h
      by_cases hE : k + b ≤ l + more
      · obtain ⟨e, he⟩ : ∃ e, l + more = k + b + e := ⟨l + more - (k + b), by omega⟩
        refine rnd_le' (a := 0) (b := e + 1) (by omega) ?_
        have h1 : m * 2 ^ more ≤ mag r * 2 ^ e * n := by
          have h2 : m * 2 ^ (k + b) * 2 ^ more ≤ mag r * (n * 2 ^ l) * 2 ^ more := Nat.mul_le_mul_right _ h'
          have e1 : mag r * (n * 2 ^ l) * 2 ^ more = mag r * 2 ^ e * n * 2 ^ (k + b) := by
            calc mag r * (n * 2 ^ l) * 2 ^ more = mag r * n * (2 ^ l * 2 ^ more) := by ac_rfl
              _ = mag r * n * (2 ^ (k + b) * 2 ^ e) := by rw [← Nat.pow_add, ← Nat.pow_add, he]
              _ = _ := by ac_rfl
          have e2 : m * 2 ^ (k + b) * 2 ^ more = m * 2 ^ more * 2 ^ (k + b) := by ac_rfl
          rw [e1, e2] at h2
          exact Nat.le_of_mul_le_mul_right h2 (Nat.two_pow_pos _)
        have h3 := hq2 _ h1
        rw [Nat.pow_succ, ← Nat.mul_assoc, Nat.pow_zero, Nat.mul_one]
        omega
      · obtain ⟨c, hc⟩ : ∃ c, k + b = l + more + 1 + c := ⟨k + b - (l + more + 1), by omega⟩
        refine rnd_le' (a := c) (b := 0) (by omega) ?_
        have h1 : m * 2 ^ more * 2 * 2 ^ c ≤ mag r * n := by
          have e1 : mag r * (n * 2 ^ l) = mag r * n * 2 ^ l := by ac_rfl
          have e2 : m * 2 ^ (k + b) = m * 2 ^ more * 2 * 2 ^ c * 2 ^ l := by
            rw [hc, Nat.pow_add, Nat.pow_add, Nat.pow_add, Nat.pow_one]; ac_rfl
          rw [e1, e2] at h'
          exact Nat.le_of_mul_le_mul_right h' (Nat.two_pow_pos _)
        rw [Nat.pow_zero, Nat.mul_one]
        by_cases hm0 : m = 0
        · have hQ0 : Q ≤ 2 * 0 := hq2 0 (by rw [hm0]; simp)
          have : Q = 0 := by omega
          rw [this, Nat.zero_mul]; exact Nat.zero_le _
        · have hQb := hbig hm0
          obtain ⟨f, j, hf, hf53⟩ := mag_digits hr
          rw [hf]
          by_cases hj : c + 1 ≤ j
          · obtain ⟨d, rfl⟩ : ∃ d, j = d + 1 + c := ⟨j - (c + 1), by omega⟩
            have h2 : m * 2 ^ more ≤ f * 2 ^ d * n := by
              rw [hf] at h1
              have e1 : f * 2 ^ (d + 1 + c) * n = f * 2 ^ d * n * (2 * 2 ^ c) := by rw [Nat.pow_add, Nat.pow_add, Nat.pow_one]; ac_rfl
              rw [e1, Nat.mul_assoc (m * 2 ^ more)] at h1
              exact Nat.le_of_mul_le_mul_right h1 (Nat.mul_pos (by decide) (Nat.two_pow_pos _))
            have e2 : f * 2 ^ (d + 1 + c) = 2 * (f * 2 ^ d) * 2 ^ c := by rw [Nat.pow_add, Nat.pow_add, Nat.pow_one]; ac_rfl
            rw [e2]
            exact Nat.mul_le_mul_right _ (hq2 _ h2)
          · exfalso
            have h2 : f * 2 ^ j < 2 ^ 53 * 2 ^ c := by
              calc f * 2 ^ j < 2 ^ 53 * 2 ^ j := Nat.mul_lt_mul_of_pos_right hf53 (Nat.two_pow_pos _)
                _ ≤ 2 ^ 53 * 2 ^ c := Nat.mul_le_mul_left _ (Nat.pow_le_pow_right (by decide) (by omega))
            have h3 : 2 ^ 53 * n ≤ m * 2 ^ more := (Nat.le_div_iff_mul_le (by omega)).1 hQb
            have h4 : 2 ^ 53 * n * 2 ^ c ≤ m * 2 ^ more * 2 ^ c := Nat.mul_le_mul_right _ h3
            have h5 : f * 2 ^ j * n < 2 ^ 53 * 2 ^ c * n := Nat.mul_lt_mul_of_pos_right h2 (by omega)
            rw [hf] at h1
            have e1 : 2 ^ 53 * n * 2 ^ c = 2 ^ 53 * 2 ^ c * n := by ac_rfl
            have e2 : m * 2 ^ more * 2 * 2 ^ c = 2 * (m * 2 ^ more * 2 ^ c) := by ac_rfl
            omega
end Go.Fl
