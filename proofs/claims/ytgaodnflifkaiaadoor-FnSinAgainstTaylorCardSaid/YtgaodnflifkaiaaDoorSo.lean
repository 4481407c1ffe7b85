/- What math.Sin answers, at every word. -/
import Derived.Test.YtgaodnflifkaiaaDoorSn
namespace Go.Proofs.YtgaodnflifkaiaaDoor
open Go.RowKit Go.Fl
set_option linter.unusedVariables false
set_option linter.unusedSimpArgs false
attribute [local go_sem ↓] Go.wp_at_zero Go.wp_at_succ

/-- The three tables as the world holds them. -/
structure Tabs (tab : Nat → Int) (w : World) : Prop where
  s : TabS w
  c : TabC w
  p : TabP w tab
/-- math.sin answers y at x. -/
def SinIs (tab : Nat → Int) (x y : Nat) : Prop := ∀ w, Tabs tab w → Calls Tryd.prog 17 #[.float .f64 x] w fun e w' => e = .returned (.float .f64 y) ∧ ∃ n, w' = w.drewN n
theorem SinIs.of (tab : Nat → Int) (x y : Nat) (h : ∀ w, Tabs tab w → Calls Tryd.prog 17 #[.float .f64 x] w fun e w' => e = .returned (.float .f64 y) ∧ w' = w) : SinIs tab x y :=
  fun w T => (h w T).mono fun e w' k => ⟨k.1, 0, k.2⟩
/-- math.sin answers y at x and its opposite at the opposite. -/
def SinBoth (tab : Nat → Int) (x y : Nat) : Prop := Fin' y ∧ rv y ≤ 1 ∧ -1 ≤ rv y ∧ SinIs tab x y ∧ SinIs tab (Op.negFloat .f64 x) (Op.negFloat .f64 y)
theorem SinBoth.same {tab : Nat → Int} {x y : Nat} (f : Fin' y) (h1 : rv y ≤ 1) (h2 : -1 ≤ rv y) (a : SinIs tab x y) (b : SinIs tab (Op.negFloat .f64 x) (Op.negFloat .f64 y)) : ∃ y, SinBoth tab x y := ⟨y, f, h1, h2, a, b⟩
theorem SinBoth.flip {tab : Nat → Int} {x y : Nat} (f : Fin' y) (h1 : rv y ≤ 1) (h2 : -1 ≤ rv y) (a : SinIs tab x (Op.negFloat .f64 y)) (b : SinIs tab (Op.negFloat .f64 x) y) : ∃ y, SinBoth tab x y :=
  ⟨Op.negFloat .f64 y, ⟨negFloat_lt f.lt, by rw [rung_neg f.lt]; exact f.fin⟩, by rw [rv_neg f.lt]; grind, by rw [rv_neg f.lt]; grind, a, by rw [negFloat_twice f.lt]; exact b⟩

theorem word_facts {x : Nat} (hx : x < infR) : key x = (x : Int) ∧ nan x = false ∧ x < 2 ^ 64 ∧ rung x < infR := by
  refine ⟨key_self hx, ?_, by unfold infR at hx; omega, by rw [rung_self hx]; exact hx⟩
  unfold nan
  rw [rung_self hx]
  simp only [decide_eq_false_iff_not]
  omega

theorem sin_even {x : Nat} (h0 : 0 < x) (h1 : x < 4737786807993761792) (tab : Nat → Int) (v J : Nat) (hJb : J ≤ 1073741823) (hp : J % 2 = 0) (Y m1 d1 m2 d2 m3 z : Nat) (hv : floatBits .mul .f64 x kQ = some v) (hJ : floatToIntVal .f64 v .u64 = some (J : Int))
    (hY : floatOfInt .f64 (J : Int) = Y)
    (hC : Cody x Y m1 d1 m2 d2 m3 z) (hz : Fin' z) (z1 : rv z ≤ 4 / 5) (z2 : -(4 / 5) ≤ rv z) : ∃ y, SinBoth tab x y := by
  have hx : x < infR := Nat.lt_trans h1 (by decide)
  obtain ⟨hk, hn, hx64, hfin⟩ := word_facts hx
  obtain ⟨zz, hzz, ⟨m0, a1, n1, a2, n2, a3, n3, a4, n4, p, w, q, y, hS, hP, fy, y1, y2⟩, ⟨m0', a1', n1', a2', n2', a3', n3', a4', n4', p', h', a', ww', q', y', hS', hP', fy', y1', y2'⟩⟩ := sin_tail hz z1 z2
  have hs : SR z zz y := ⟨m0, a1, n1, a2, n2, a3, n3, a4, n4, p, w, q, hS, hP⟩
  have hc : CR zz y' := ⟨m0', a1', n1', a2', n2', a3', n3', a4', n4', p', h', a', ww', q', hS', hP'⟩
  have b1 := and1 (J := J) (by omega)
  rw [hp] at b1
  have b7 := and7 (J := J) (by omega)
  rcases (show J % 8 = 0 ∨ J % 8 = 2 ∨ J % 8 = 4 ∨ J % 8 = 6 by omega) with hj | hj | hj | hj <;> rw [hj] at b7
  · exact SinBoth.same fy y1 y2 (SinIs.of _ _ _ (fun w T => sin_even0p x z zz y x hk hn hx64 hfin (by omega) (by omega) v J (by omega) (by omega) 0 Y m1 d1 m2 d2 m3 hv hJ b1 b7 hY hC hzz hs w T.s)) (SinIs.of _ _ _ (fun w T => sin_even0n x z zz y x hk hn hx64 hfin (by omega) (by omega) v J (by omega) (by omega) 0 Y m1 d1 m2 d2 m3 hv hJ b1 b7 hY hC hzz hs w T.s))
  · exact SinBoth.same fy' y1' y2' (SinIs.of _ _ _ (fun w T => sin_even2p x z zz y' x hk hn hx64 hfin (by omega) (by omega) v J (by omega) (by omega) 0 Y m1 d1 m2 d2 m3 hv hJ b1 b7 hY hC hzz hc w T.c)) (SinIs.of _ _ _ (fun w T => sin_even2n x z zz y' x hk hn hx64 hfin (by omega) (by omega) v J (by omega) (by omega) 0 Y m1 d1 m2 d2 m3 hv hJ b1 b7 hY hC hzz hc w T.c))
  · exact SinBoth.flip fy y1 y2 (SinIs.of _ _ _ (fun w T => sin_even4p x z zz y x hk hn hx64 hfin (by omega) (by omega) v J (by omega) (by omega) 0 Y m1 d1 m2 d2 m3 hv hJ b1 b7 hY hC hzz hs w T.s)) (SinIs.of _ _ _ (fun w T => sin_even4n x z zz y x hk hn hx64 hfin (by omega) (by omega) v J (by omega) (by omega) 0 Y m1 d1 m2 d2 m3 hv hJ b1 b7 hY hC hzz hs w T.s))
  · exact SinBoth.flip fy' y1' y2' (SinIs.of _ _ _ (fun w T => sin_even6p x z zz y' x hk hn hx64 hfin (by omega) (by omega) v J (by omega) (by omega) 0 Y m1 d1 m2 d2 m3 hv hJ b1 b7 hY hC hzz hc w T.c)) (SinIs.of _ _ _ (fun w T => sin_even6n x z zz y' x hk hn hx64 hfin (by omega) (by omega) v J (by omega) (by omega) 0 Y m1 d1 m2 d2 m3 hv hJ b1 b7 hY hC hzz hc w T.c))
theorem sin_odd {x : Nat} (h0 : 0 < x) (h1 : x < 4737786807993761792) (tab : Nat → Int) (v J : Nat) (hJb : J ≤ 1073741823) (hp : J % 2 = 1) (Y m1 d1 m2 d2 m3 z : Nat) (hv : floatBits .mul .f64 x kQ = some v) (hJ : floatToIntVal .f64 v .u64 = some (J : Int))
    (hY1 : floatBits .add .f64 (floatOfInt .f64 (J : Int)) one' = some Y)
    (hC : Cody x Y m1 d1 m2 d2 m3 z) (hz : Fin' z) (z1 : rv z ≤ 4 / 5) (z2 : -(4 / 5) ≤ rv z) : ∃ y, SinBoth tab x y := by
  have hx : x < infR := Nat.lt_trans h1 (by decide)
  obtain ⟨hk, hn, hx64, hfin⟩ := word_facts hx
  obtain ⟨zz, hzz, ⟨m0, a1, n1, a2, n2, a3, n3, a4, n4, p, w, q, y, hS, hP, fy, y1, y2⟩, ⟨m0', a1', n1', a2', n2', a3', n3', a4', n4', p', h', a', ww', q', y', hS', hP', fy', y1', y2'⟩⟩ := sin_tail hz z1 z2
  have hs : SR z zz y := ⟨m0, a1, n1, a2, n2, a3, n3, a4, n4, p, w, q, hS, hP⟩
  have hc : CR zz y' := ⟨m0', a1', n1', a2', n2', a3', n3', a4', n4', p', h', a', ww', q', hS', hP'⟩
  have b1 := and1 (J := J) (by omega)
  rw [hp] at b1
  have b7 : bits .and .u64 ((J : Int) + 1) 7 = (((J + 1) % 8 : Nat) : Int) := and7 (J := J + 1) (by omega)
  rcases (show (J + 1) % 8 = 0 ∨ (J + 1) % 8 = 2 ∨ (J + 1) % 8 = 4 ∨ (J + 1) % 8 = 6 by omega) with hj | hj | hj | hj <;> rw [hj] at b7
  · exact SinBoth.same fy y1 y2 (SinIs.of _ _ _ (fun w T => sin_odd0p x z zz y x hk hn hx64 hfin (by omega) (by omega) v J (by omega) (by omega) _ Y m1 d1 m2 d2 m3 hv hJ b1 b7 rfl hY1 hC hzz hs w T.s)) (SinIs.of _ _ _ (fun w T => sin_odd0n x z zz y x hk hn hx64 hfin (by omega) (by omega) v J (by omega) (by omega) _ Y m1 d1 m2 d2 m3 hv hJ b1 b7 rfl hY1 hC hzz hs w T.s))
  · exact SinBoth.same fy' y1' y2' (SinIs.of _ _ _ (fun w T => sin_odd2p x z zz y' x hk hn hx64 hfin (by omega) (by omega) v J (by omega) (by omega) _ Y m1 d1 m2 d2 m3 hv hJ b1 b7 rfl hY1 hC hzz hc w T.c)) (SinIs.of _ _ _ (fun w T => sin_odd2n x z zz y' x hk hn hx64 hfin (by omega) (by omega) v J (by omega) (by omega) _ Y m1 d1 m2 d2 m3 hv hJ b1 b7 rfl hY1 hC hzz hc w T.c))
  · exact SinBoth.flip fy y1 y2 (SinIs.of _ _ _ (fun w T => sin_odd4p x z zz y x hk hn hx64 hfin (by omega) (by omega) v J (by omega) (by omega) _ Y m1 d1 m2 d2 m3 hv hJ b1 b7 rfl hY1 hC hzz hs w T.s)) (SinIs.of _ _ _ (fun w T => sin_odd4n x z zz y x hk hn hx64 hfin (by omega) (by omega) v J (by omega) (by omega) _ Y m1 d1 m2 d2 m3 hv hJ b1 b7 rfl hY1 hC hzz hs w T.s))
  · exact SinBoth.flip fy' y1' y2' (SinIs.of _ _ _ (fun w T => sin_odd6p x z zz y' x hk hn hx64 hfin (by omega) (by omega) v J (by omega) (by omega) _ Y m1 d1 m2 d2 m3 hv hJ b1 b7 rfl hY1 hC hzz hc w T.c)) (SinIs.of _ _ _ (fun w T => sin_odd6n x z zz y' x hk hn hx64 hfin (by omega) (by omega) v J (by omega) (by omega) _ Y m1 d1 m2 d2 m3 hv hJ b1 b7 rfl hY1 hC hzz hc w T.c))
theorem sin_long {x : Nat} (h1 : 4737786807993761792 ≤ x) (hx : x < infR) (tab : Nat → Int) : ∃ y, SinBoth tab x y := by
  obtain ⟨hk, hn, hx64, hfin⟩ := word_facts hx
  obtain ⟨j, z, hj, hz, z1, z2, hL⟩ := trig_long h1 hx tab
  obtain ⟨zz, hzz, ⟨m0, a1, n1, a2, n2, a3, n3, a4, n4, p, w, q, y, hS, hP, fy, y1, y2⟩, ⟨m0', a1', n1', a2', n2', a3', n3', a4', n4', p', h', a', ww', q', y', hS', hP', fy', y1', y2'⟩⟩ := sin_tail hz z1 z2
  have hs : SR z zz y := ⟨m0, a1, n1, a2, n2, a3, n3, a4, n4, p, w, q, hS, hP⟩
  have hc : CR zz y' := ⟨m0', a1', n1', a2', n2', a3', n3', a4', n4', p', h', a', ww', q', hS', hP'⟩
  rcases hj with rfl | rfl | rfl | rfl
  · exact SinBoth.same fy y1 y2 (fun w T => sin_long0p x z zz y x hk hn hx64 hfin (by omega) (fun w => TabP w tab) hL hzz hs w T.s T.p) (fun w T => sin_long0n x z zz y x hk hn hx64 hfin (by omega) (fun w => TabP w tab) hL hzz hs w T.s T.p)
  · exact SinBoth.same fy' y1' y2' (fun w T => sin_long2p x z zz y' x hk hn hx64 hfin (by omega) (fun w => TabP w tab) hL hzz hc w T.c T.p) (fun w T => sin_long2n x z zz y' x hk hn hx64 hfin (by omega) (fun w => TabP w tab) hL hzz hc w T.c T.p)
  · exact SinBoth.flip fy y1 y2 (fun w T => sin_long4p x z zz y x hk hn hx64 hfin (by omega) (fun w => TabP w tab) hL hzz hs w T.s T.p) (fun w T => sin_long4n x z zz y x hk hn hx64 hfin (by omega) (fun w => TabP w tab) hL hzz hs w T.s T.p)
  · exact SinBoth.flip fy' y1' y2' (fun w T => sin_long6p x z zz y' x hk hn hx64 hfin (by omega) (fun w => TabP w tab) hL hzz hc w T.c T.p) (fun w T => sin_long6n x z zz y' x hk hn hx64 hfin (by omega) (fun w => TabP w tab) hL hzz hc w T.c T.p)
theorem sin_pos {x : Nat} (h0 : 0 < x) (hx : x < infR) (tab : Nat → Int) : ∃ y, SinBoth tab x y := by
  by_cases h1 : x < 4737786807993761792
  · obtain ⟨v, J, hv, hJ, hJb, hadd, m1, d1, m2, d2, m3, z, hC, hz, z1, z2⟩ := cw_all h0 h1
    rcases Nat.mod_two_eq_zero_or_one J with hp | hp
    · rw [hp] at hC
      exact sin_even h0 h1 tab v J hJb hp _ m1 d1 m2 d2 m3 z hv hJ rfl hC hz z1 z2
    · rw [hp] at hC
      exact sin_odd h0 h1 tab v J hJb hp _ m1 d1 m2 d2 m3 z hv hJ hadd hC hz z1 z2
  · exact sin_long (by omega) hx tab
/-- At a nought. -/
theorem sin_zero (x : Nat) (hk : key x = 0) (hn : nan x = false) (w : World) : Calls Tryd.prog 17 #[.float .f64 x] w fun e w' => e = .returned (.float .f64 x) ∧ w' = w := by
  go_enter Tryd.func17, Tryd.ntmps17
  go_wp2
  go_ret
  exact ⟨rfl, rfl⟩
theorem sin_nan (x : Nat) (hn : nan x = true) (w : World) : Calls Tryd.prog 17 #[.float .f64 x] w fun e w' => e = .returned (.float .f64 x) ∧ w' = w := by
  go_enter Tryd.func17, Tryd.ntmps17
  go_wp2_with (go_at_call 18; refine (isNaNM _ _).mono ?_; rintro e w' ⟨rfl, rfl⟩)
  go_ret
  exact ⟨rfl, rfl⟩
theorem nanM (w : World) : Calls Tryd.prog 20 #[] w fun e w' => e = .returned (.float .f64 9221120237041090561) ∧ w' = w := by
  have hf := frombits_run
  go_enter Tryd.func20, Tryd.ntmps20
  go_wp2
  go_ret
  exact ⟨rfl, rfl⟩
theorem sin_inf (x : Nat) (hx64 : x < 2 ^ 64) (hn : nan x = false) (hi : rung x = infR) (w : World) : Calls Tryd.prog 17 #[.float .f64 x] w fun e w' => e = .returned (.float .f64 9221120237041090561) ∧ w' = w := by
  have HX := Lib.hid hx64
  have hfi : decide (rung x = infR) = true := decide_eq_true hi
  have hz : ¬ key x = 0 := by unfold key; rw [hi]; split <;> decide
  have hi' := Lib.hid hi
  clear hi hx64
  go_enter Tryd.func17, Tryd.ntmps17
  go_wp2_with (first | (go_at_call 18; refine (isNaNM _ _).mono ?_; rintro e w' ⟨rfl, rfl⟩) | (go_at_call 19; refine (isInfM _ HX.out (by assumption) true hfi _).mono ?_; rintro e w' ⟨rfl, rfl⟩) | (go_at_call 20; refine (nanM _).mono ?_; rintro e w' ⟨rfl, rfl⟩))
  go_ret
  exact ⟨rfl, rfl⟩
/-- A finite word is a nought, a positive word, or the opposite of one. -/
theorem word_split {x : Nat} (hx : x < 2 ^ 64) (hf : rung x < infR) : (key x = 0 ∧ nan x = false) ∨ (0 < x ∧ x < infR) ∨ ∃ x', 0 < x' ∧ x' < infR ∧ x = Op.negFloat .f64 x' := by
  have hn : nan x = false := by unfold nan; simp only [decide_eq_false_iff_not]; omega
  by_cases hz : rung x = 0
  · exact .inl ⟨(key_zero_iff x).2 hz, hn⟩
  · cases hs : neg x
    · have : x = rung x := by
        refine word_ext hx (Nat.lt_trans (rung_lt x) (by decide)) ?_ (by rw [rung_self hf])
        rw [hs]
        exact (neg_self hf).symm
      exact .inr (.inl ⟨by omega, by omega⟩)
    · refine .inr (.inr ⟨rung x, by omega, hf, ?_⟩)
      have hr : rung x < 2 ^ 64 := Nat.lt_trans (rung_lt x) (by decide)
      refine word_ext hx (negFloat_lt hr) ?_ ?_
      · rw [hs, neg_neg hr, neg_self hf]; rfl
      · rw [rung_neg hr, rung_self hf]
/-- Every finite word: a number within one, and its opposite at the opposite. -/
theorem sin_all {x : Nat} (hx : x < 2 ^ 64) (hf : rung x < infR) (tab : Nat → Int) : ∃ y, SinBoth tab x y := by
  rcases word_split hx hf with ⟨hk, hn⟩ | ⟨h0, h1⟩ | ⟨x', h0, h1, rfl⟩
  · have hv : rv x = 0 := by
      have : val x = 0 := by
        unfold val; rw [(key_zero_iff x).1 hk, mag_zero]; split <;> rfl
      unfold rv; rw [this]
      grind
    exact ⟨x, ⟨hx, hf⟩, by rw [hv]; decide +kernel, by rw [hv]; decide +kernel, SinIs.of _ _ _ fun w _ => sin_zero x hk hn w,
      SinIs.of _ _ _ fun w _ => sin_zero _ (by rw [key_neg hx, hk]; rfl) (by rw [nan_neg hx, hn]) w⟩
  · exact sin_pos h0 h1 tab
  · obtain ⟨y, f, y1, y2, a, b⟩ := sin_pos h0 h1 tab
    have h64 := (word_facts h1).2.2.1
    refine ⟨Op.negFloat .f64 y, ⟨negFloat_lt f.lt, by rw [rung_neg f.lt]; exact f.fin⟩, by rw [rv_neg f.lt]; grind, by rw [rv_neg f.lt]; grind, b, ?_⟩
    rw [negFloat_twice h64, negFloat_twice f.lt]
    exact a
end Go.Proofs.YtgaodnflifkaiaaDoor

