/- The walks of the laws on ceiling and rounding of n011_57: each returns true and writes nothing that was there. -/
import Derived.Test.YthockcodajmkmaaF64M
import Derived.OpenShut
import Derived.Deep.RegionHeld3
import Derived.Deep.DrawnRows
import Derived.Lib.Hide
import Derived.IntWalk
import Derived.Outline
import Derived.Test.YthockcodajmkmaaK
namespace Go.Proofs.Ythockcodajmkmaa
open Go.RowKit Go.Fl
set_option linter.unusedVariables false
set_option linter.unusedSimpArgs false
attribute [local go_sem ↓] Go.wp_at_zero Go.wp_at_succ

theorem large_cases {x : Nat} (hn : nan x = false) (h : ¬ (key x < 4841369599423283200 ∧ -4841369599423283200 < key x)) : (nan x = false ∧ 4841369599423283200 ≤ key x) ∨ (nan x = false ∧ key x ≤ -4841369599423283200) := by
  by_cases c : 4841369599423283200 ≤ key x
  · exact .inl ⟨hn, c⟩
  · exact .inr ⟨hn, by omega⟩

theorem fnCeilMatchesTruncModel.walk (a0 : Nat) (w0 : a0 < 2 ^ 64) (w : World) : Calls Try.prog 3 #[.float .f64 a0] w fun e w' => e = .returned (.bool true) ∧ Below w.heap.size w w' := by
  cases hn : nan a0
  · by_cases hs : key a0 < 4841369599423283200 ∧ -4841369599423283200 < key a0
    · have hr := (small_iff a0 hn).2 hs
      have hf : rung a0 < infR := Nat.lt_trans hr (by decide)
      have HM := Lib.hid (fun w => modelCeil_small a0 hn hs.1 hs.2 w)
      have HS : ∀ r, IntR .up a0 r → sameB r (ceilW a0) = true := fun r h => by rw [(h.up w0 hn).1 hf]; exact sameB_self _
      replace HS := Lib.hid HS
      have hl : ceilW a0 < 2 ^ 64 := iw_lt _ _
      clear hs hr hf
      go_enter Try.func3, Try.ntmps3
      go_wp2_with (first | (go_at_call 7; refine (newF64 _ _).mono ?_; rintro e w' ⟨rfl, rfl⟩) | (go_at_call 9; refine (value _ _).mono ?_; rintro e w' ⟨rfl, rfl⟩) | (go_at_call 8; refine (hCeil _ w0 _).mono ?_; rintro e w' ⟨cr, hcr, rfl, hb⟩) | (go_at_call 11; refine (HM.out _).mono ?_; rintro e w' ⟨rfl, n, rfl⟩) | (go_at_call 10; refine (sameF_true _ _ hcr.1 hl (HS.out _ hcr) _).mono ?_; rintro e w' ⟨rfl, hb⟩))
      go_ret
      refine ⟨rfl, ?_⟩
      repeat' (first | exact Below.refl _ _ | refine below_alloc ?_ _ | refine below_drewN ?_ _ | refine Below.drew ?_ | refine below_step ?_ (by assumption))
    · have hr : ¬ rung a0 < 4841369599423283200 := fun h => hs ((small_iff a0 hn).1 h)
      have HM := Lib.hid (fun w => modelCeil_same a0 (.inr (large_cases hn hs)) w)
      have HS : ∀ r, IntR .up a0 r → sameB r a0 = true := fun r h => by
        rcases not_nan_cases hn with hi | hf
        · rw [(h.up w0 hn).2 hi]; exact sameB_self _
        · rw [(h.up w0 hn).1 hf, (large_words w0 hf hr).1]; exact sameB_self _
      replace HS := Lib.hid HS
      clear hs hr
      go_enter Try.func3, Try.ntmps3
      go_wp2_with (first | (go_at_call 7; refine (newF64 _ _).mono ?_; rintro e w' ⟨rfl, rfl⟩) | (go_at_call 9; refine (value _ _).mono ?_; rintro e w' ⟨rfl, rfl⟩) | (go_at_call 8; refine (hCeil _ w0 _).mono ?_; rintro e w' ⟨cr, hcr, rfl, hb⟩) | (go_at_call 11; refine (HM.out _).mono ?_; rintro e w' ⟨rfl, n, rfl⟩) | (go_at_call 10; refine (sameF_true _ _ hcr.1 w0 (HS.out _ hcr) _).mono ?_; rintro e w' ⟨rfl, hb⟩))
      go_ret
      refine ⟨rfl, ?_⟩
      repeat' (first | exact Below.refl _ _ | refine below_alloc ?_ _ | refine below_drewN ?_ _ | refine Below.drew ?_ | refine below_step ?_ (by assumption))
  · have HM := Lib.hid (fun w => modelCeil_same a0 (.inl hn) w)
    have HS : ∀ r, IntR .up a0 r → sameB r a0 = true := fun r h => by simp [sameB, hn, h.2.1 hn]
    replace HS := Lib.hid HS
    go_enter Try.func3, Try.ntmps3
    go_wp2_with (first | (go_at_call 7; refine (newF64 _ _).mono ?_; rintro e w' ⟨rfl, rfl⟩) | (go_at_call 9; refine (value _ _).mono ?_; rintro e w' ⟨rfl, rfl⟩) | (go_at_call 8; refine (hCeil _ w0 _).mono ?_; rintro e w' ⟨cr, hcr, rfl, hb⟩) | (go_at_call 11; refine (HM.out _).mono ?_; rintro e w' ⟨rfl, n, rfl⟩) | (go_at_call 10; refine (sameF_true _ _ hcr.1 w0 (HS.out _ hcr) _).mono ?_; rintro e w' ⟨rfl, hb⟩))
    go_ret
    refine ⟨rfl, ?_⟩
    repeat' (first | exact Below.refl _ _ | refine below_alloc ?_ _ | refine below_drewN ?_ _ | refine Below.drew ?_ | refine below_step ?_ (by assumption))

theorem rnd_large {x : Nat} (h : ¬ rung x < 4841369599423283200) : rndW x = x := by
  unfold rndW; rw [if_neg (by unfold ex; omega)]
theorem rnd_small {x : Nat} (h : rung x < 4841369599423283200) : rndW x = roundW x := by
  unfold rndW; rw [if_pos (by unfold ex; omega)]
theorem rnd_lt' {x : Nat} (hx : x < 2 ^ 64) : rndW x < 2 ^ 64 := by
  unfold rndW; split
  · exact iw_lt _ _
  · exact hx
theorem nan_large {x : Nat} (h : nan x = true) : ¬ rung x < 4841369599423283200 := by
  rw [nan_iff] at h; unfold infR at h; omega

theorem fnRoundMatchesHalfAwayModel.walk (a0 : Nat) (w0 : a0 < 2 ^ 64) (w : World) : Calls Try.prog 4 #[.float .f64 a0] w fun e w' => e = .returned (.bool true) ∧ Below w.heap.size w w' := by
  have hl := rnd_lt' w0
  have HR := Lib.hid (fun w => hRound a0 w0 w)
  cases hn : nan a0
  · by_cases hs : key a0 < 4841369599423283200 ∧ -4841369599423283200 < key a0
    · have hr := (small_iff a0 hn).2 hs
      have HM := Lib.hid (fun w => modelRound_small a0 w0 hn hs.1 hs.2 w)
      have HS : sameB (rndW a0) (roundW a0) = true := by rw [rnd_small hr]; exact sameB_self _
      have hl2 : roundW a0 < 2 ^ 64 := iw_lt _ _
      replace HS := Lib.hid HS
      clear hs hr
      generalize rndW a0 = Q at *
      generalize roundW a0 = R at *
      go_enter Try.func4, Try.ntmps4
      go_wp2_with (first | (go_at_call 7; refine (newF64 _ _).mono ?_; rintro e w' ⟨rfl, rfl⟩) | (go_at_call 9; refine (value _ _).mono ?_; rintro e w' ⟨rfl, rfl⟩) | (go_at_call 12; refine (HR.out _).mono ?_; rintro e w' ⟨rfl, hb⟩) | (go_at_call 13; refine (HM.out _).mono ?_; rintro e w' ⟨rfl, n, rfl⟩) | (go_at_call 10; refine (sameF_true _ _ hl hl2 HS.out _).mono ?_; rintro e w' ⟨rfl, hb⟩))
      go_ret
      refine ⟨rfl, ?_⟩
      repeat' (first | exact Below.refl _ _ | refine below_alloc ?_ _ | refine below_drewN ?_ _ | refine Below.drew ?_ | refine below_step ?_ (by assumption))
    · have hr : ¬ rung a0 < 4841369599423283200 := fun h => hs ((small_iff a0 hn).1 h)
      have HM := Lib.hid (fun w => modelRound_same a0 (.inr (large_cases hn hs)) w)
      have HS : sameB (rndW a0) a0 = true := by rw [rnd_large hr]; exact sameB_self _
      replace HS := Lib.hid HS
      clear hs hr
      go_enter Try.func4, Try.ntmps4
      go_wp2_with (first | (go_at_call 7; refine (newF64 _ _).mono ?_; rintro e w' ⟨rfl, rfl⟩) | (go_at_call 9; refine (value _ _).mono ?_; rintro e w' ⟨rfl, rfl⟩) | (go_at_call 12; refine (HR.out _).mono ?_; rintro e w' ⟨rfl, hb⟩) | (go_at_call 13; refine (HM.out _).mono ?_; rintro e w' ⟨rfl, n, rfl⟩) | (go_at_call 10; refine (sameF_true _ _ hl w0 HS.out _).mono ?_; rintro e w' ⟨rfl, hb⟩))
      go_ret
      refine ⟨rfl, ?_⟩
      repeat' (first | exact Below.refl _ _ | refine below_alloc ?_ _ | refine below_drewN ?_ _ | refine Below.drew ?_ | refine below_step ?_ (by assumption))
  · have HM := Lib.hid (fun w => modelRound_same a0 (.inl hn) w)
    have HS : sameB (rndW a0) a0 = true := by rw [rnd_large (nan_large hn)]; exact sameB_self _
    replace HS := Lib.hid HS
    go_enter Try.func4, Try.ntmps4
    go_wp2_with (first | (go_at_call 7; refine (newF64 _ _).mono ?_; rintro e w' ⟨rfl, rfl⟩) | (go_at_call 9; refine (value _ _).mono ?_; rintro e w' ⟨rfl, rfl⟩) | (go_at_call 12; refine (HR.out _).mono ?_; rintro e w' ⟨rfl, hb⟩) | (go_at_call 13; refine (HM.out _).mono ?_; rintro e w' ⟨rfl, n, rfl⟩) | (go_at_call 10; refine (sameF_true _ _ hl w0 HS.out _).mono ?_; rintro e w' ⟨rfl, hb⟩))
    go_ret
    refine ⟨rfl, ?_⟩
    repeat' (first | exact Below.refl _ _ | refine below_alloc ?_ _ | refine below_drewN ?_ _ | refine Below.drew ?_ | refine below_step ?_ (by assumption))

theorem intr_ex (way : Ieee.Toward) (x : Nat) (hx : x < 2 ^ 64) : ∃ r, IntR way x r := by
  obtain ⟨r, n, _, h⟩ := run_integral (P := Try.prog) "x" way hx default
  exact ⟨r, h⟩
theorem key_bound' {x : Nat} (h : nan x = false) : -9218868437227405312 ≤ key x ∧ key x ≤ 9218868437227405312 := by
  have : rung x ≤ infR := by simpa [nan] using h
  unfold key; unfold infR at this; split <;> omega
theorem rnd_odd {x : Nat} (hx : x < 2 ^ 64) : Op.negFloat .f64 (rndW (Op.negFloat .f64 x)) = rndW x := by
  unfold rndW ex
  rw [rung_neg hx]
  split
  · exact round_odd hx
  · exact negFloat_twice hx
/-- What the law says of one number, in plain words: the rounded number, the floor and the ceiling. -/
theorem odd_facts {x : Nat} (hx : x < 2 ^ 64) (hn : nan x = false) : ∃ FW CW, (∀ r, IntR .down x r → r = FW) ∧ (∀ r, IntR .up x r → r = CW) ∧ (rndW x = FW ∨ rndW x = CW) ∧
    ((rung x = infR ∧ rndW x = x) ∨ (rung x < infR ∧ ∃ d, (∀ w, fop .sub w (rndW x) x = d) ∧ nan d = false ∧ key d ≤ 4602678819172646912 ∧ -4602678819172646912 ≤ key d)) := by
  rcases not_nan_cases hn with hi | hf
  · have hr : ¬ rung x < 4841369599423283200 := by rw [hi]; decide
    refine ⟨x, x, fun r h => (h.down hx hn).2 hi, fun r h => (h.up hx hn).2 hi, .inl (rnd_large hr), .inl ⟨hi, rnd_large hr⟩⟩
  · refine ⟨floorW x, ceilW x, fun r h => (h.down hx hn).1 hf, fun r h => (h.up hx hn).1 hf, ?_, .inr ⟨hf, ?_⟩⟩
    · by_cases hr : rung x < 4841369599423283200
      · rw [rnd_small hr]; exact round_floor_ceil x
      · left; rw [rnd_large hr, (large_words hx hf hr).2.1]
    · by_cases hr : rung x < 4841369599423283200
      · rw [rnd_small hr]
        obtain ⟨d, h1, h2, h3, h4⟩ := round_diff hx hr
        rw [k05] at h3
        rw [k06] at h4
        exact ⟨d, h1, h2, h3, h4⟩
      · rw [rnd_large hr]
        exact ⟨0, fun w => (fop_FR .sub w x x).of_some (sub_self_fin hx hf), by decide, by decide, by decide⟩

theorem valueB (x : Nat) (w : World) : Calls Try.prog 9 #[.agg #[.float .f64 x]] w fun e w' => e = .returned (.float .f64 x) ∧ Below w.heap.size w w' :=
  (value x w).mono fun e w' h => ⟨h.1, by rw [h.2]; exact below_alloc (Below.refl _ _) _⟩

set_option maxHeartbeats 1000000 in
theorem fnRoundOddAndBetweenFloorCeil.walk (a0 : Nat) (w0 : a0 < 2 ^ 64) (w : World) : Calls Try.prog 6 #[.float .f64 a0] w fun e w' => e = .returned (.bool true) ∧ Below w.heap.size w w' := by
  have k1 : key 9218868437227405311 = 9218868437227405311 := by decide
  have n1 : nan 9218868437227405311 = false := by decide
  have k2 : key 18442240474082181119 = -9218868437227405311 := by decide
  have n2 : nan 18442240474082181119 = false := by decide
  have b1 := h05; have b2 := k05; have b3 := h06; have b4 := k06
  have hnl := negFloat_lt w0
  have hl := rnd_lt' w0
  have hl2 : Op.negFloat .f64 (rndW (Op.negFloat .f64 a0)) < 2 ^ 64 := negFloat_lt (rnd_lt' hnl)
  have HR := Lib.hid (fun w => hRound a0 w0 w)
  have HR2 := Lib.hid (fun w => hRound (Op.negFloat .f64 a0) hnl w)
  have HFl := Lib.hid (fun w => hFloor a0 w0 w)
  have HCl := Lib.hid (fun w => hCeil a0 w0 w)
  have s1 : sameB (rndW a0) (Op.negFloat .f64 (rndW (Op.negFloat .f64 a0))) = true := by rw [rnd_odd w0]; exact sameB_self _
  cases hn : nan a0
  · obtain ⟨FW, CW, HF, HC, hq, hd⟩ := odd_facts w0 hn
    have lF : FW < 2 ^ 64 := by have := intr_ex .down a0 w0; obtain ⟨r, hr⟩ := this; rw [← HF r hr]; exact hr.1
    have lC : CW < 2 ^ 64 := by have := intr_ex .up a0 w0; obtain ⟨r, hr⟩ := this; rw [← HC r hr]; exact hr.1
    have hq' : sameB (rndW a0) FW = true ∨ (sameB (rndW a0) FW = false ∧ sameB (rndW a0) CW = true) := by
      cases hb : sameB (rndW a0) FW
      · right
        rcases hq with h | h
        · rw [h, sameB_self] at hb; cases hb
        · exact ⟨rfl, by rw [h]; exact sameB_self _⟩
      · exact .inl rfl
    replace HF := Lib.hid HF
    replace HC := Lib.hid HC
    have kb := key_bound' hn
    rcases hd with ⟨hi, he⟩ | ⟨hf, d, d1, d2, d3, d4⟩
    · have hk : 9218868437227405311 < key a0 ∨ key a0 < -9218868437227405311 := by
        unfold key; rw [hi]; unfold infR; cases neg a0 <;> simp
      have kq : key (rndW a0) = key a0 := by rw [he]
      have nq : nan (rndW a0) = false := by rw [he]; exact hn
      clear hq hi he
      generalize rndW (Op.negFloat .f64 a0) = Q2 at *
      generalize rndW a0 = Q at *
      rcases hk with hk | hk <;> rcases hq' with q1 | ⟨q1, q2⟩
      all_goals
        go_enter Try.func6, Try.ntmps6
        go_wp2_with (go_at_call 7; refine (newF64 _ _).mono ?_; rintro e w' ⟨rfl, rfl⟩)
        have hc : ((w.alloc (.cells #[.float .f64 a0] 24)).alloc (.cells #[.float .f64 a0] 24)).cell? ⟨w.heap.size + 1, 0, none⟩ = some (.float .f64 a0) ∧ w.heap.size + 1 < ((w.alloc (.cells #[.float .f64 a0] 24)).alloc (.cells #[.float .f64 a0] 24)).heap.size ∧ Below w.heap.size w ((w.alloc (.cells #[.float .f64 a0] 24)).alloc (.cells #[.float .f64 a0] 24)) := ⟨by simp, by simp, below_alloc (below_alloc (Below.refl _ _) _) _⟩
        go_wp2_with (first | (go_at_call 9; refine (valueB _ _).mono ?_; rintro e w' ⟨rfl, hb⟩; replace hc := hold_below (A := ⟨w.heap.size + 1, 0, none⟩) hc hb; clear hb) | (go_at_call 12; (first | (with_reducible refine (HR.out _).mono ?_) | (with_reducible refine (HR2.out _).mono ?_)); rintro e w' ⟨rfl, hb⟩; replace hc := hold_below (A := ⟨w.heap.size + 1, 0, none⟩) hc hb; clear hb) | (go_at_call 15; refine (negF _ _).mono ?_; rintro e w' ⟨rfl, hb⟩; replace hc := hold_below (A := ⟨w.heap.size + 1, 0, none⟩) hc hb; clear hb) | (go_at_call 10; refine (sameF _ _ (by assumption) (by assumption) _).mono ?_; rintro e w' ⟨rfl, hb⟩; replace hc := hold_below (A := ⟨w.heap.size + 1, 0, none⟩) hc hb; clear hb) | (go_at_call 16; refine (HFl.out _).mono ?_; rintro e w' ⟨fr, hfr, rfl, hb⟩; replace hfr := HF.out _ hfr; subst hfr; replace hc := hold_below (A := ⟨w.heap.size + 1, 0, none⟩) hc hb; clear hb) | (go_at_call 8; refine (HCl.out _).mono ?_; rintro e w' ⟨fr, hfr, rfl, hb⟩; replace hfr := HC.out _ hfr; subst hfr; replace hc := hold_below (A := ⟨w.heap.size + 1, 0, none⟩) hc hb; clear hb))
        go_ret
        exact ⟨ret_bool (by simp), hc.2.2⟩
    · have hk1 : key a0 ≤ 9218868437227405311 := by unfold key; unfold infR at hf; split <;> omega
      have hk2 : -9218868437227405311 ≤ key a0 := by unfold key; unfold infR at hf; split <;> omega
      clear hq hf
      generalize rndW (Op.negFloat .f64 a0) = Q2 at *
      generalize rndW a0 = Q at *
      rcases hq' with q1 | ⟨q1, q2⟩
      all_goals
        go_enter Try.func6, Try.ntmps6
        go_wp2_with (go_at_call 7; refine (newF64 _ _).mono ?_; rintro e w' ⟨rfl, rfl⟩)
        have hc : ((w.alloc (.cells #[.float .f64 a0] 24)).alloc (.cells #[.float .f64 a0] 24)).cell? ⟨w.heap.size + 1, 0, none⟩ = some (.float .f64 a0) ∧ w.heap.size + 1 < ((w.alloc (.cells #[.float .f64 a0] 24)).alloc (.cells #[.float .f64 a0] 24)).heap.size ∧ Below w.heap.size w ((w.alloc (.cells #[.float .f64 a0] 24)).alloc (.cells #[.float .f64 a0] 24)) := ⟨by simp, by simp, below_alloc (below_alloc (Below.refl _ _) _) _⟩
        go_wp2_with (first | (go_at_call 9; refine (valueB _ _).mono ?_; rintro e w' ⟨rfl, hb⟩; replace hc := hold_below (A := ⟨w.heap.size + 1, 0, none⟩) hc hb; clear hb) | (go_at_call 12; (first | (with_reducible refine (HR.out _).mono ?_) | (with_reducible refine (HR2.out _).mono ?_)); rintro e w' ⟨rfl, hb⟩; replace hc := hold_below (A := ⟨w.heap.size + 1, 0, none⟩) hc hb; clear hb) | (go_at_call 15; refine (negF _ _).mono ?_; rintro e w' ⟨rfl, hb⟩; replace hc := hold_below (A := ⟨w.heap.size + 1, 0, none⟩) hc hb; clear hb) | (go_at_call 10; refine (sameF _ _ (by assumption) (by assumption) _).mono ?_; rintro e w' ⟨rfl, hb⟩; replace hc := hold_below (A := ⟨w.heap.size + 1, 0, none⟩) hc hb; clear hb) | (go_at_call 16; refine (HFl.out _).mono ?_; rintro e w' ⟨fr, hfr, rfl, hb⟩; replace hfr := HF.out _ hfr; subst hfr; replace hc := hold_below (A := ⟨w.heap.size + 1, 0, none⟩) hc hb; clear hb) | (go_at_call 8; refine (HCl.out _).mono ?_; rintro e w' ⟨fr, hfr, rfl, hb⟩; replace hfr := HC.out _ hfr; subst hfr; replace hc := hold_below (A := ⟨w.heap.size + 1, 0, none⟩) hc hb; clear hb))
        go_ret
        exact ⟨ret_bool (by simp <;> omega), below_drewN hc.2.2 _⟩
  · have hnq : nan (rndW a0) = true := by rw [rnd_large (nan_large hn)]; exact hn
    generalize rndW (Op.negFloat .f64 a0) = Q2 at *
    generalize rndW a0 = Q at *
    go_enter Try.func6, Try.ntmps6
    go_wp2_with (go_at_call 7; refine (newF64 _ _).mono ?_; rintro e w' ⟨rfl, rfl⟩)
    have hc : ((w.alloc (.cells #[.float .f64 a0] 24)).alloc (.cells #[.float .f64 a0] 24)).cell? ⟨w.heap.size + 1, 0, none⟩ = some (.float .f64 a0) ∧ w.heap.size + 1 < ((w.alloc (.cells #[.float .f64 a0] 24)).alloc (.cells #[.float .f64 a0] 24)).heap.size ∧ Below w.heap.size w ((w.alloc (.cells #[.float .f64 a0] 24)).alloc (.cells #[.float .f64 a0] 24)) := ⟨by simp, by simp, below_alloc (below_alloc (Below.refl _ _) _) _⟩
    go_wp2_with (first | (go_at_call 9; refine (valueB _ _).mono ?_; rintro e w' ⟨rfl, hb⟩; replace hc := hold_below (A := ⟨w.heap.size + 1, 0, none⟩) hc hb; clear hb) | (go_at_call 12; (first | (with_reducible refine (HR.out _).mono ?_) | (with_reducible refine (HR2.out _).mono ?_)); rintro e w' ⟨rfl, hb⟩; replace hc := hold_below (A := ⟨w.heap.size + 1, 0, none⟩) hc hb; clear hb) | (go_at_call 15; refine (negF _ _).mono ?_; rintro e w' ⟨rfl, hb⟩; replace hc := hold_below (A := ⟨w.heap.size + 1, 0, none⟩) hc hb; clear hb) | (go_at_call 10; refine (sameF _ _ (by assumption) (by assumption) _).mono ?_; rintro e w' ⟨rfl, hb⟩; replace hc := hold_below (A := ⟨w.heap.size + 1, 0, none⟩) hc hb; clear hb) | (go_at_call 16; refine (HFl.out _).mono ?_; rintro e w' ⟨fr, hfr, rfl, hb⟩; replace hfr := HF.out _ hfr; subst hfr; replace hc := hold_below (A := ⟨w.heap.size + 1, 0, none⟩) hc hb; clear hb) | (go_at_call 8; refine (HCl.out _).mono ?_; rintro e w' ⟨fr, hfr, rfl, hb⟩; replace hfr := HC.out _ hfr; subst hfr; replace hc := hold_below (A := ⟨w.heap.size + 1, 0, none⟩) hc hb; clear hb))
    go_ret
    exact ⟨ret_bool (by simp), hc.2.2⟩

end Go.Proofs.Ythockcodajmkmaa
