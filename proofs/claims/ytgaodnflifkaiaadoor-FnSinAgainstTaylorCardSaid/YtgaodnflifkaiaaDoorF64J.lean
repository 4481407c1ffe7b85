/- The models of ceiling and rounding by truncation give the same words. No program in sight. -/
import Derived.Test.YtgaodnflifkaiaaDoorF64I
namespace Go.Fl
open Ieee
set_option linter.unusedVariables false
set_option linter.unusedSimpArgs false

theorem f2i_small {x : Nat} (h : rung x < 4841369599423283200) : floatToIntVal .f64 x .i64 = some (ti x) := by
  have hf : rung x < infR := Nat.lt_trans h (by decide)
  have ht := tr_small h
  unfold floatToIntVal
  have e : FloatKind.f64.decode x = double.read x := rfl
  rw [e, toInt_zero hf]
  have b : IntKind.i64.min ≤ ti x ∧ ti x ≤ IntKind.i64.max := by
    have e1 : IntKind.i64.min = -9223372036854775808 := by decide
    have e2 : IntKind.i64.max = 9223372036854775807 := by decide
    rw [e1, e2]; unfold ti; split <;> omega
  show (if IntKind.i64.min ≤ ti x ∧ ti x ≤ IntKind.i64.max then some (ti x) else none) = some (ti x)
  rw [if_pos b]

theorem U_int_pos : (0 : Int) < (U : Int) := by have := U_pos; omega
/-- The truncated float against the number itself. -/
theorem foi_lt {x : Nat} (h : rung x < 4841369599423283200) : (key (floatOfInt .f64 (ti x)) < key x ↔ neg x = false ∧ rs x ≠ 0) := by
  have ht := tr_small h
  rw [← val_lt_iff, val_foi (by rw [ti_abs]; omega), val_eq]
  have hr := rs_lt x
  unfold ti
  cases neg x
  · simp; omega
  · simp only [if_true, Int.neg_mul]
    simp; omega
theorem foi_zero {n : Int} (h : n.natAbs ≤ 2 ^ 53) : key (floatOfInt .f64 n) = 0 ↔ n = 0 := by
  have e : (0 : Int) = key 0 := by decide
  have e0 : val 0 = 0 := by decide
  rw [e, ← val_eq_iff, e0, val_foi h]
  have := U_int_pos
  constructor
  · intro h'
    rcases Int.mul_eq_zero.1 h' with h' | h'
    · exact h'
    · omega
  · intro h'; rw [h', ← e, Int.zero_mul]
theorem foi_not_nan (n : Int) : nan (floatOfInt .f64 n) = false := iw_not_nan _ _
theorem foi_one : floatOfInt .f64 1 = 4607182418800017408 := by decide
theorem foi_negone : floatOfInt .f64 (-1) = 13830554455654793216 := by decide

theorem add_one {n : Int} (h : n.natAbs ≤ 2 ^ 52) (w : World) : fop .add w (floatOfInt .f64 n) 4607182418800017408 = floatOfInt .f64 (n + 1) := by
  rw [← foi_one]
  exact (fop_FR .add w _ _).of_some (add_ints h (by decide))
theorem sub_one {n : Int} (h : n.natAbs ≤ 2 ^ 52) (w : World) : fop .sub w (floatOfInt .f64 n) 4607182418800017408 = floatOfInt .f64 (n - 1) := by
  refine (fop_FR .sub w _ _).of_some ?_
  rw [sub_is_add (by decide)]
  have e : Op.negFloat .f64 4607182418800017408 = floatOfInt .f64 (-1) := by decide
  rw [e]
  exact add_ints h (by decide)
theorem mul_zero_small {x : Nat} (hf : rung x < infR) (w : World) : fop .mul w x 0 = iw (neg x) 0 := by
  refine (fop_FR .mul w _ _).of_some ?_
  obtain ⟨m, k, e, _⟩ := read_fin hf
  have e0 : double.read 0 = .number false 0 (-1074) := by decide
  rw [fb_mul, e, e0]
  simp only [Datum.product, Option.map_some, Nat.mul_zero, Bool.xor_false]
  rw [write_number, rnd_zero, iw_zero]

/-- A whole number with x's sign, from the integer. -/
theorem foi_signed {x : Nat} {n : Nat} (h : n ≠ 0) : floatOfInt .f64 (if neg x then -(n : Int) else (n : Int)) = iw (neg x) n := by
  rw [foi_iw]
  cases neg x
  · simp only [Bool.false_eq_true, if_false]
    have : decide ((n : Int) < 0) = false := by simp
    rw [this]; congr 1
  · simp only [if_true]
    have : decide (-(n : Int) < 0) = true := by simp; omega
    rw [this]; congr 1; omega

/-- The model of ceiling. -/
theorem ceil_up {x : Nat} (hn : neg x = false) (hr : rs x ≠ 0) : floatOfInt .f64 (ti x + 1) = ceilW x ∧ ti x + 1 ≠ 0 := by
  have e : ti x + 1 = if neg x then -((tr x + 1 : Nat) : Int) else ((tr x + 1 : Nat) : Int) := by unfold ti; rw [hn]; simp
  have hc : ceilM x = tr x + 1 := by unfold ceilM; simp [hn, hr]
  refine ⟨?_, by unfold ti; rw [hn]; simp; omega⟩
  rw [e, foi_signed (by omega)]
  unfold ceilW; rw [hc]
theorem ceil_stay {x : Nat} (h : ¬ (neg x = false ∧ rs x ≠ 0)) : (ti x = 0 → ceilW x = iw (neg x) 0) ∧ (ti x ≠ 0 → floatOfInt .f64 (ti x) = ceilW x) := by
  have hc : ceilM x = tr x := by
    unfold ceilM
    cases hn : neg x
    · have : rs x = 0 := Classical.byContradiction fun hh => h ⟨hn, hh⟩
      simp [this]
    · simp
  have hti : ti x = 0 ↔ tr x = 0 := by unfold ti; split <;> omega
  unfold ceilW
  rw [hc]
  refine ⟨fun h0 => by rw [hti.1 h0], fun h0 => ?_⟩
  have : tr x ≠ 0 := fun h' => h0 (hti.2 h')
  exact foi_signed this

/-- A difference that is a rung's number is exact. -/
theorem sub_exact {x y r : Nat} (hx : x < 2 ^ 64) (hy : y < 2 ^ 64) (fx : rung x < infR) (fy : rung y < infR) (hr : r < infR) (hm : mag r = (val x - val y).natAbs) : ∃ d, floatBits .sub .f64 x y = some d ∧ nan d = false ∧ val d = val x - val y := by
  have h63 : r < 2 ^ 63 := Nat.lt_trans hr infR_lt
  have hvy : val (Op.negFloat .f64 y) = - val y := by
    unfold val
    rw [rung_neg hy, neg_neg hy]
    cases neg y <;> simp
  obtain ⟨s, hs⟩ : ∃ s, s = if val x - val y = 0 then neg x && !neg y else decide (val x - val y < 0) := ⟨_, rfl⟩
  have hv : val (wd s r) = val x - val y := by
    have e : val (wd s r) = if s then -(mag r : Int) else (mag r : Int) := by
      unfold val; rw [neg_wd _ h63, rung_wd _ h63]
    rw [e, hm]
    by_cases h0 : val x - val y = 0
    · rw [h0]; simp
    · rw [if_neg h0] at hs
      by_cases hn : val x - val y < 0
      · rw [hs]; simp [hn]; omega
      · rw [hs]; simp [hn]; omega
  refine ⟨wd s r, ?_, not_nan (by rw [rung_wd _ h63]; omega), hv⟩
  rw [sub_is_add hy]
  refine add_exact fx (by rw [rung_neg hy]; exact fy) (wd_lt _ h63) (by rw [rung_wd _ h63]; exact hr) (by rw [hvy, hv]; omega) ?_
  rw [neg_wd _ h63, hv, neg_neg hy, hs]

/-- The exact fractional part. -/
theorem frac_rung {x : Nat} (h : rung x < 4841369599423283200) : ∃ r, r < infR ∧ mag r = rs x := by
  obtain ⟨E, hE⟩ : ∃ E : Nat, E = 1074 := ⟨_, rfl⟩
  have hf : rung x < infR := Nat.lt_trans h (by decide)
  obtain ⟨m, k, e, hm, hm53, hk, hk2⟩ := read_fin hf
  have hkE : k ≤ E := by
    by_cases hk' : k ≤ E
    · exact hk'
    · exfalso
      have h52 := hk2 (by omega)
      have hlt := mag_lt h
      rw [mag_52, U_pow hE, ← hm] at hlt
      have h3 : 2 ^ 52 * 2 ^ E ≤ m * 2 ^ k := Nat.mul_le_mul h52 (Nat.pow_le_pow_right (by decide) (by omega))
      omega
  obtain ⟨c, hc⟩ : ∃ c, E = c + k := ⟨E - k, by omega⟩
  have hrs : rs x = (m % 2 ^ c) * 2 ^ k := by
    unfold rs
    rw [← hm, U_pow hE, hc, Nat.pow_add, Nat.mul_mod_mul_right]
  rw [hrs]
  exact exists_rung (m % 2 ^ c) k (Nat.le_trans (Nat.mod_le _ _) (by omega)) (by omega)
theorem frac_sub {x : Nat} (hx : x < 2 ^ 64) (h : rung x < 4841369599423283200) : ∃ d, (∀ w, fop .sub w x (floatOfInt .f64 (ti x)) = d) ∧ nan d = false ∧ val d = if neg x then -(rs x : Int) else (rs x : Int) := by
  obtain ⟨r, hr, hm⟩ := frac_rung h
  have hf : rung x < infR := Nat.lt_trans h (by decide)
  have ht := tr_small h
  have hi := is_int (ti x) (by rw [ti_abs]; omega)
  have hv := val_foi (n := ti x) (by rw [ti_abs]; omega)
  have hd : val x - val (floatOfInt .f64 (ti x)) = if neg x then -(rs x : Int) else (rs x : Int) := by
    rw [hv, val_eq]
    unfold ti
    cases neg x
    · simp only [Bool.false_eq_true, if_false]; omega
    · simp only [if_true, Int.neg_mul]; omega
  obtain ⟨d, h1, h2, h3⟩ := sub_exact hx hi.lt hf hi.fin hr (by rw [hm, hd]; split <;> omega)
  exact ⟨d, fun w => (fop_FR .sub w _ _).of_some h1, h2, by rw [h3, hd]⟩

theorem half_val : val 4602678819172646912 * 2 = U := by
  obtain ⟨E, hE⟩ : ∃ E : Nat, E + 1 = 1074 := ⟨1073, rfl⟩
  obtain ⟨F, hF⟩ : ∃ F : Nat, F = 1021 := ⟨1021, rfl⟩
  have e2 : 4602678819172646912 / 2 ^ 52 - 1 = F := by rw [hF]
  have e3 : E = 52 + F := by omega
  have e1 : 2 ^ 52 + 4602678819172646912 % 2 ^ 52 = 2 ^ 52 := by decide
  have h1 : mag 4602678819172646912 = 2 ^ E := by
    unfold mag
    rw [if_neg (by decide), e1, e2, e3, Nat.pow_add]
  have hn : neg 4602678819172646912 = false := by decide
  have hr : rung 4602678819172646912 = 4602678819172646912 := by decide
  have h2 : val 4602678819172646912 = ((2 ^ E : Nat) : Int) := by
    unfold val
    rw [hn, hr, h1]; rfl
  rw [h2, U_pow hE, Nat.pow_succ, Int.natCast_mul]
  rfl
theorem neghalf_val : val 13826050856027422720 * 2 = -(U : Int) := by
  have hn : val 13826050856027422720 = -val 4602678819172646912 := by
    unfold val
    have h1 : neg 13826050856027422720 = true := by decide
    have h2 : rung 13826050856027422720 = 4602678819172646912 := by decide
    have h3 : neg 4602678819172646912 = false := by decide
    have h4 : rung 4602678819172646912 = 4602678819172646912 := by decide
    rw [h1, h2, h3, h4]; rfl
  rw [hn, Int.neg_mul, half_val]

/-- The fractional part against one half. -/
theorem frac_half {x d : Nat} (hv : val d = if neg x then -(rs x : Int) else (rs x : Int)) :
    (key 4602678819172646912 ≤ key d ↔ neg x = false ∧ U ≤ 2 * rs x) ∧ (key d ≤ key 13826050856027422720 ↔ neg x = true ∧ U ≤ 2 * rs x) := by
  have h1 := half_val
  have h2 := neghalf_val
  have h3 := val_lt_iff d 4602678819172646912
  have h4 := val_lt_iff 13826050856027422720 d
  have hu := U_pos
  cases hn : neg x
  · rw [hn] at hv
    simp only [Bool.false_eq_true, if_false] at hv
    simp
    omega
  · rw [hn] at hv
    simp only [if_true] at hv
    simp
    omega

/-- The model of rounding. -/
theorem round_up {x : Nat} (hr : U ≤ 2 * rs x) : (neg x = false → floatOfInt .f64 (ti x + 1) = roundW x ∧ ti x + 1 ≠ 0) ∧ (neg x = true → floatOfInt .f64 (ti x - 1) = roundW x ∧ ti x - 1 ≠ 0) := by
  have hc : roundM x = tr x + 1 := by unfold roundM; simp [hr]
  unfold roundW
  rw [hc]
  refine ⟨fun hn => ?_, fun hn => ?_⟩
  · have e : ti x + 1 = if neg x then -((tr x + 1 : Nat) : Int) else ((tr x + 1 : Nat) : Int) := by unfold ti; rw [hn]; simp
    exact ⟨by rw [e, foi_signed (by omega)], by unfold ti; rw [hn]; simp; omega⟩
  · have e : ti x - 1 = if neg x then -((tr x + 1 : Nat) : Int) else ((tr x + 1 : Nat) : Int) := by unfold ti; rw [hn]; simp; omega
    exact ⟨by rw [e, foi_signed (by omega)], by unfold ti; rw [hn]; simp; omega⟩
theorem round_stay {x : Nat} (h : ¬ U ≤ 2 * rs x) : (ti x = 0 → roundW x = iw (neg x) 0) ∧ (ti x ≠ 0 → floatOfInt .f64 (ti x) = roundW x) := by
  have hc : roundM x = tr x := by unfold roundM; simp [h]
  have hti : ti x = 0 ↔ tr x = 0 := by unfold ti; split <;> omega
  unfold roundW
  rw [hc]
  refine ⟨fun h0 => by rw [hti.1 h0], fun h0 => ?_⟩
  have : tr x ≠ 0 := fun h' => h0 (hti.2 h')
  exact foi_signed this

/-- Rounding's result is the floor or the ceiling; it is odd. -/
theorem round_floor_ceil (x : Nat) : roundW x = floorW x ∨ roundW x = ceilW x := by
  unfold roundW floorW ceilW
  have hu := U_pos
  have h1 : roundM x = tr x ∨ (roundM x = tr x + 1 ∧ rs x ≠ 0) := by
    unfold roundM
    by_cases h : U ≤ 2 * rs x
    · right; simp [h]; omega
    · left; simp [h]
  have h2 : (neg x = false → floorM x = tr x ∧ (rs x ≠ 0 → ceilM x = tr x + 1)) ∧ (neg x = true → ceilM x = tr x ∧ (rs x ≠ 0 → floorM x = tr x + 1)) := by
    unfold floorM ceilM
    refine ⟨fun hn => ⟨by simp [hn], fun hr => by simp [hn, hr]⟩, fun hn => ⟨by simp [hn], fun hr => by simp [hn, hr]⟩⟩
  cases hn : neg x
  · obtain ⟨f, c⟩ := h2.1 hn
    rcases h1 with h1 | ⟨h1, h3⟩
    · left; rw [h1, f]
    · right; rw [h1, c h3]
  · obtain ⟨c, f⟩ := h2.2 hn
    rcases h1 with h1 | ⟨h1, h3⟩
    · right; rw [h1, c]
    · left; rw [h1, f h3]
theorem parts_neg {x : Nat} (hx : x < 2 ^ 64) : tr (Op.negFloat .f64 x) = tr x ∧ rs (Op.negFloat .f64 x) = rs x := by
  unfold tr rs; rw [rung_neg hx]; exact ⟨rfl, rfl⟩
theorem iw_neg (s : Bool) (n : Nat) : Op.negFloat .f64 (iw s n) = iw (!s) n := by
  have hl : rnd n 0 < 2 ^ 63 := rnd_lt n 0
  rw [negFloat_eq (iw_lt s n)]
  unfold iw
  rw [write_number, write_number, neg_wd _ hl, rung_wd _ hl]
theorem round_odd {x : Nat} (hx : x < 2 ^ 64) : Op.negFloat .f64 (roundW (Op.negFloat .f64 x)) = roundW x := by
  unfold roundW roundM
  rw [iw_neg, (parts_neg hx).1, (parts_neg hx).2, neg_neg hx, Bool.not_not]

theorem abs1 (p : Int) (u r : Nat) (h : r ≤ u) : (p + u - (p + r)).natAbs = u - r := by omega
theorem abs2 (p : Int) (u r : Nat) (h : r ≤ u) : (-(p + u) - -(p + r)).natAbs = u - r := by omega
theorem abs3 (p : Int) (r : Nat) : (p - (p + r)).natAbs = r := by omega
theorem abs4 (p : Int) (r : Nat) : (-p - -(p + r)).natAbs = r := by omega

theorem half_pure (v a b : Int) (u : Nat) (h1 : a * 2 = u) (h2 : b * 2 = -(u : Int)) (hb : 2 * v.natAbs ≤ u) : ¬ a < v ∧ ¬ v < b := by omega
theorem half_gen {d H K : Nat} {v : Int} (hH : val H * 2 = U) (hK : val K * 2 = -(U : Int)) (hv : val d = v) (hb : 2 * v.natAbs ≤ U) : key d ≤ key H ∧ key K ≤ key d := by
  obtain ⟨h1, h2⟩ := half_pure v _ _ U hH hK hb
  rw [← hv] at h1 h2
  rw [val_lt_iff] at h1 h2
  exact ⟨Int.not_lt.1 h1, Int.not_lt.1 h2⟩
theorem half_bounds {d : Nat} {v : Int} (hv : val d = v) (hb : 2 * v.natAbs ≤ U) : key d ≤ key 4602678819172646912 ∧ key 13826050856027422720 ≤ key d :=
  half_gen half_val neghalf_val hv hb
theorem diff_units {x : Nat} (h : rung x < 4841369599423283200) : (val (roundW x) - val x).natAbs = (if U ≤ 2 * rs x then U - rs x else rs x) := by
  have hN := roundM_le h
  have hv := val_iw (neg x) (show roundM x ≤ 2 ^ 53 by omega)
  have hrl := rs_lt x
  unfold roundW
  rw [hv, val_eq x]
  unfold roundM
  by_cases c : U ≤ 2 * rs x
  · simp only [c, decide_true, Bool.toNat_true, if_true]
    have e : (((tr x + 1 : Nat) : Int)) * (U : Int) = (tr x : Int) * U + U := by push_cast; rw [Int.add_mul, Int.one_mul]
    rw [e]
    cases neg x
    · simp only [Bool.false_eq_true, if_false]
      exact abs1 _ _ _ (Nat.le_of_lt hrl)
    · simp only [if_true]
      exact abs2 _ _ _ (Nat.le_of_lt hrl)
  · simp only [c, decide_false, Bool.toNat_false, Nat.add_zero, if_false]
    cases neg x
    · simp only [Bool.false_eq_true, if_false]
      exact abs3 _ _
    · simp only [if_true]
      exact abs4 _ _
theorem diff_rung {x : Nat} (h : rung x < 4841369599423283200) : ∃ r, r < infR ∧ mag r = (if U ≤ 2 * rs x then U - rs x else rs x) := by
  obtain ⟨E, hE⟩ : ∃ E : Nat, E = 1074 := ⟨_, rfl⟩
  have hf : rung x < infR := Nat.lt_trans h (by decide)
  obtain ⟨m, k, e, hm, hm53, hk, hk2⟩ := read_fin hf
  have hkE : k ≤ E := by
    by_cases hk' : k ≤ E
    · exact hk'
    · exfalso
      have h52 := hk2 (by omega)
      have hlt := mag_lt h
      rw [mag_52, U_pow hE, ← hm] at hlt
      have h3 : 2 ^ 52 * 2 ^ E ≤ m * 2 ^ k := Nat.mul_le_mul h52 (Nat.pow_le_pow_right (by decide) (by omega))
      omega
  obtain ⟨c, hc⟩ : ∃ c, E = c + k := ⟨E - k, by omega⟩
  have hp := Nat.two_pow_pos k
  have hrs : rs x = (m % 2 ^ c) * 2 ^ k := by
    unfold rs
    rw [← hm, U_pow hE, hc, Nat.pow_add, Nat.mul_mod_mul_right]
  have hU : U = 2 ^ c * 2 ^ k := by rw [U_pow hE, hc, Nat.pow_add]
  have hml : m % 2 ^ c ≤ m := Nat.mod_le _ _
  by_cases c1 : U ≤ 2 * rs x
  · rw [if_pos c1, hrs, hU, ← Nat.sub_mul]
    refine exists_rung _ _ ?_ (by omega)
    rw [hrs, hU, ← Nat.mul_assoc] at c1
    have := Nat.le_of_mul_le_mul_right c1 hp
    omega
  · rw [if_neg c1, hrs]
    exact exists_rung _ _ (by omega) (by omega)
theorem half_if (u r : Nat) (h : r < u) : 2 * (if u ≤ 2 * r then u - r else r) ≤ u := by split <;> omega

/-- The rounded number is within one half of the number. -/
theorem round_diff {x : Nat} (hx : x < 2 ^ 64) (h : rung x < 4841369599423283200) : ∃ d, (∀ w, fop .sub w (roundW x) x = d) ∧ nan d = false ∧ key d ≤ key 4602678819172646912 ∧ key 13826050856027422720 ≤ key d := by
  have hf : rung x < infR := Nat.lt_trans h (by decide)
  have hN := roundM_le h
  have hi := iw_is (neg x) (show roundM x ≤ 2 ^ 53 by omega)
  obtain ⟨r, hr, er⟩ := diff_rung h
  obtain ⟨d, hd1, hd2, hd3⟩ := sub_exact (iw_lt (neg x) (roundM x)) hx hi.fin hf hr (er.trans (diff_units h).symm)
  exact ⟨d, fun w => (fop_FR .sub w _ _).of_some hd1, hd2, half_bounds hd3 ((diff_units h) ▸ half_if U (rs x) (rs_lt x))⟩

end Go.Fl
