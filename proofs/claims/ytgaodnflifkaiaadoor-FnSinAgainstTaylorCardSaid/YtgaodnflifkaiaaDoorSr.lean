/- The walk of FnSinAgainstTaylor. -/
import Derived.Test.YtgaodnflifkaiaaDoorSq
namespace Go.Fl
open Ieee
/-- A sum lies over a word if the exact sum does. -/
theorem add_over {x y r z : Nat} (hx : Fin' x) (hy : Fin' y) (hz : Fin' z) (h : floatBits .add .f64 x y = some r) (hh : rv z ≤ rv x + rv y) : rv z ≤ rv r := by
  obtain ⟨r', h', hm⟩ := add_mono hx.fin hy.fin
  obtain rfl := pick h' h
  refine rv_le_of_key (hm.ge z hz.fin ?_)
  apply int_of_rat
  rw [Rat.intCast_add, rv_ur x, rv_ur y, Rat.intCast_mul, rv_ur z]
  have t := Rat.mul_le_mul_of_nonneg_right hh (Rat.le_of_lt ur_pos)
  have c2 : ((1 : Int) : Rat) = 1 := rfl
  rw [c2]; grind
theorem nan_of_fin {x : Nat} (h : Fin' x) : nan x = false := by
  have := h.fin
  unfold nan
  simp only [decide_eq_false_iff_not]
  omega
theorem v_tol : rv 4387073039832405526 = (2535301200456459 / 1267650600228229401496703205376 : Rat) ∧ Fin' 4387073039832405526 := by
  refine ⟨?_, by decide, by decide⟩
  rw [rv_const (e := 973) (c := 101) (by decide) (by decide) (by decide)]; decide +kernel
/-- A difference of eighteen half-steps at most. -/
theorem within_words {s t : Nat} (fs : Fin' s) (ft : Fin' t) (h1 : rv s ≤ rv t + 18 * eh) (h2 : rv t - 18 * eh ≤ rv s) : ∃ d, floatBits .sub .f64 s t = some d ∧ nan d = false ∧ key d ≤ key 4387073039832405526 ∧ key 13610445076687181334 ≤ key d := by
  have e2 := eh_big
  obtain ⟨e0, e1⟩ := eh_small
  obtain ⟨d, hd, fd, -, -⟩ := subE fs ft (G := 1021) (by decide) stp_eh (by rw [e2]; grind) (by rw [e2]; grind)
  have ht : 18 * eh ≤ rv 4387073039832405526 := by rw [v_tol.1]; decide +kernel
  have hd' := hd
  rw [sub_is_add ft.lt] at hd'
  have hn : rv (Op.negFloat .f64 4387073039832405526) = -rv 4387073039832405526 := rv_neg v_tol.2.lt
  refine ⟨d, hd, nan_of_fin fd, key_le_of_val_le (val_le_of_rv (add_under fs (neg_fin ft) v_tol.2 hd' (by rw [rv_neg ft.lt]; grind))), ?_⟩
  have e : (13610445076687181334 : Nat) = Op.negFloat .f64 4387073039832405526 := by decide
  rw [e]
  exact key_le_of_val_le (val_le_of_rv (add_over fs (neg_fin ft) (neg_fin v_tol.2) hd' (by rw [rv_neg ft.lt, hn]; grind)))
end Go.Fl
namespace Go.Proofs.YtgaodnflifkaiaaDoor
open Go.RowKit Go.Fl
set_option linter.unusedVariables false
set_option linter.unusedSimpArgs false
attribute [local go_sem ↓] Go.wp_at_zero Go.wp_at_succ

theorem within_true {s t : Nat} (fs : Fin' s) (ft : Fin' t) (h1 : rv s ≤ rv t + 18 * eh) (h2 : rv t - 18 * eh ≤ rv s) (w : World) :
    Calls Tryd.prog 12 #[.float .f64 s, .float .f64 t, .float .f64 4387073039832405526] w fun e w' => e = .returned (.bool true) ∧ w' = w := by
  obtain ⟨d, hd, dn, k1, k2⟩ := within_words fs ft h1 h2
  obtain ⟨fd, ed⟩ := f_some hd
  have h0 : floatBits .sub .f64 0 4387073039832405526 = some 13610445076687181334 := by decide +kernel
  obtain ⟨f0, e0⟩ := f_some h0
  have n1 : nan 4387073039832405526 = false := by decide
  have n2 : nan 13610445076687181334 = false := by decide
  clear h1 h2 fs ft hd h0
  go_enter Tryd.func12, Tryd.ntmps12
  go_wp2
  go_ret
  exact ⟨ret_bool (by simp [*]; try omega), rfl⟩

/-- At a tiny number. -/
theorem sin_tiny_is {x : Nat} (h0 : 0 < x) (h1 : x ≤ 4485585228861014016) (tab : Nat → Int) : SinIs tab x x ∧ SinIs tab (Op.negFloat .f64 x) (Op.negFloat .f64 x) := by
  have h1' : x < 4737786807993761792 := Nat.lt_of_le_of_lt h1 (by decide)
  have hx : x < infR := Nat.lt_trans h1' (by decide)
  obtain ⟨hk, hn, hx64, hfin⟩ := word_facts hx
  obtain ⟨v, hv, nv, rvv, v1, v2, x0, -⟩ := quart h0 h1'
  obtain ⟨t1, t2⟩ := tr_rv nv
  have hJv := f2u_small rvv nv
  have hw : rv 4485585228861014016 = 1 / 134217728 := by
    rw [rv_const (e := 995) (c := 79) (by decide) (by decide) (by decide)]; decide +kernel
  have x1 : rv x ≤ 1 / 134217728 := by
    rw [← hw]
    refine rv_le_of_key ?_
    rw [hk, key_self (by decide)]; omega
  have hJ : tr v = 0 := by
    have h : ((tr v : Int) : Rat) ≤ 1 / 2 := by grind
    refine Nat.le_zero.1 (Nat.le_of_not_lt fun hlt => ?_)
    have h2 : ((1 : Int) : Rat) ≤ ((tr v : Int) : Rat) := Rat.intCast_le_intCast.2 (by omega)
    have c1 : ((1 : Int) : Rat) = 1 := rfl
    rw [c1] at h2
    grind
  rw [hJ] at hJv
  have w0 : floatOfInt .f64 0 = 0 := by decide
  obtain ⟨zz, hzz, hs⟩ := sin_tiny h0 h1
  have b1 : bits .and .u64 ((0 : Nat) : Int) 1 = 0 := and1 (J := 0) (by decide)
  have b7 : bits .and .u64 ((0 : Nat) : Int) 7 = 0 := and7 (J := 0) (by decide)
  exact ⟨SinIs.of _ _ _ fun w T => sin_even0p x x zz x x hk hn hx64 hfin (by omega) (by omega) v ((0 : Nat) : Int) (by decide) (by decide) 0 0 0 x 0 x 0 hv hJv b1 b7 w0 (cody_zero h0 hx) hzz hs w T.s,
      SinIs.of _ _ _ fun w T => sin_even0n x x zz x x hk hn hx64 hfin (by omega) (by omega) v ((0 : Nat) : Int) (by decide) (by decide) 0 0 0 x 0 x 0 hv hJv b1 b7 w0 (cody_zero h0 hx) hzz hs w T.s⟩
theorem tay_out (a0 y : Nat) (w0 : a0 < 2 ^ 64) (tab : Nat → Int) (h1 : SinIs tab a0 y) (hf : ¬ rung a0 < infR) (hy : nan y = true) (w : World) (T : Tabs tab w) :
    Calls Tryd.prog 4 #[.float .f64 a0] w fun e w' => e = .returned (.bool true) ∧ Below w.heap.size w w' := by
  have H1 := Lib.hid h1
  have W0 := Lib.hid w0
  have HT := Lib.hid (fun o => T.below (below_alloc (Below.refl _ _) o))
  have m1 : nan 4607182418800017408 = false := by decide
  have m2 : nan 13830554455654793216 = false := by decide
  have m3 : nan 4485585228861014016 = false := by decide
  have m4 : nan 13708957265715789824 = false := by decide
  have k1 : key 4607182418800017408 = 4607182418800017408 := by decide
  have k2 : key 13830554455654793216 = -4607182418800017408 := by decide
  have k3 : key 4485585228861014016 = 4485585228861014016 := by decide
  have k4 : key 13708957265715789824 = -4485585228861014016 := by decide
  have hd : decide (rung a0 < infR) = false := by simpa using hf
  clear h1 w0 T hf
  go_enter Tryd.func4, Tryd.ntmps4
  go_wp2_with (first | (go_at_call 5; refine (newF64 _ _).mono ?_; rintro e w' ⟨rfl, rfl⟩) | (go_at_call 6; refine (sinF H1.out _ (HT.out _)).mono ?_; rintro e w1 ⟨rfl, hb1⟩; have HB := Lib.hid (below_step (below_alloc (Below.refl _ w) _) hb1); clear hb1) | (go_at_call 8; refine (valueB _ _).mono ?_; rintro e w2 ⟨rfl, hb2⟩; have HB2 := Lib.hid (below_step HB.out hb2); clear hb2) | (go_at_call 9; refine (isFinite _ W0.out _).mono ?_; rintro e w3 ⟨rfl, n, rfl⟩) | (go_at_call 10; refine (isNaN' _ _).mono ?_; rintro e w' ⟨rfl, rfl⟩))
  go_ret
  exact ⟨ret_bool (by simp [*]), below_drewN HB2.out _⟩
theorem tay_big (a0 y : Nat) (w0 : a0 < 2 ^ 64) (tab : Nat → Int) (h1 : SinIs tab a0 y) (hf : rung a0 < infR) (hn : nan a0 = false) (hk : 4607182418800017408 < key a0) (w : World) (T : Tabs tab w) :
    Calls Tryd.prog 4 #[.float .f64 a0] w fun e w' => e = .returned (.bool true) ∧ Below w.heap.size w w' := by
  have H1 := Lib.hid h1
  have W0 := Lib.hid w0
  have HT := Lib.hid (fun o => T.below (below_alloc (Below.refl _ _) o))
  have m1 : nan 4607182418800017408 = false := by decide
  have m2 : nan 13830554455654793216 = false := by decide
  have m3 : nan 4485585228861014016 = false := by decide
  have m4 : nan 13708957265715789824 = false := by decide
  have k1 : key 4607182418800017408 = 4607182418800017408 := by decide
  have k2 : key 13830554455654793216 = -4607182418800017408 := by decide
  have k3 : key 4485585228861014016 = 4485585228861014016 := by decide
  have k4 : key 13708957265715789824 = -4485585228861014016 := by decide
  have hd : decide (rung a0 < infR) = true := by simpa using hf
  generalize hK : key a0 = K at hk
  clear h1 w0 T hf
  go_enter Tryd.func4, Tryd.ntmps4
  go_wp2_with (first | (go_at_call 5; refine (newF64 _ _).mono ?_; rintro e w' ⟨rfl, rfl⟩) | (go_at_call 6; refine (sinF H1.out _ (HT.out _)).mono ?_; rintro e w1 ⟨rfl, hb1⟩; have HB := Lib.hid (below_step (below_alloc (Below.refl _ w) _) hb1); clear hb1) | (go_at_call 8; refine (valueB _ _).mono ?_; rintro e w2 ⟨rfl, hb2⟩; have HB2 := Lib.hid (below_step HB.out hb2); clear hb2) | (go_at_call 9; refine (isFinite _ W0.out _).mono ?_; rintro e w3 ⟨rfl, n, rfl⟩))
  go_ret
  exact ⟨rfl, below_drewN HB2.out _⟩
theorem tay_low (a0 y : Nat) (w0 : a0 < 2 ^ 64) (tab : Nat → Int) (h1 : SinIs tab a0 y) (hf : rung a0 < infR) (hn : nan a0 = false) (hk : key a0 < -4607182418800017408) (w : World) (T : Tabs tab w) :
    Calls Tryd.prog 4 #[.float .f64 a0] w fun e w' => e = .returned (.bool true) ∧ Below w.heap.size w w' := by
  have H1 := Lib.hid h1
  have W0 := Lib.hid w0
  have HT := Lib.hid (fun o => T.below (below_alloc (Below.refl _ _) o))
  have m1 : nan 4607182418800017408 = false := by decide
  have m2 : nan 13830554455654793216 = false := by decide
  have m3 : nan 4485585228861014016 = false := by decide
  have m4 : nan 13708957265715789824 = false := by decide
  have k1 : key 4607182418800017408 = 4607182418800017408 := by decide
  have k2 : key 13830554455654793216 = -4607182418800017408 := by decide
  have k3 : key 4485585228861014016 = 4485585228861014016 := by decide
  have k4 : key 13708957265715789824 = -4485585228861014016 := by decide
  have hd : decide (rung a0 < infR) = true := by simpa using hf
  generalize hK : key a0 = K at hk
  clear h1 w0 T hf
  go_enter Tryd.func4, Tryd.ntmps4
  go_wp2_with (first | (go_at_call 5; refine (newF64 _ _).mono ?_; rintro e w' ⟨rfl, rfl⟩) | (go_at_call 6; refine (sinF H1.out _ (HT.out _)).mono ?_; rintro e w1 ⟨rfl, hb1⟩; have HB := Lib.hid (below_step (below_alloc (Below.refl _ w) _) hb1); clear hb1) | (go_at_call 8; refine (valueB _ _).mono ?_; rintro e w2 ⟨rfl, hb2⟩; have HB2 := Lib.hid (below_step HB.out hb2); clear hb2) | (go_at_call 9; refine (isFinite _ W0.out _).mono ?_; rintro e w3 ⟨rfl, n, rfl⟩))
  go_ret
  exact ⟨rfl, below_drewN HB2.out _⟩
theorem tay_tiny (a0 y : Nat) (w0 : a0 < 2 ^ 64) (tab : Nat → Int) (h1 : SinIs tab a0 y) (hf : rung a0 < infR) (hn : nan a0 = false) (hk1 : key a0 ≤ 4485585228861014016) (hk2 : -4485585228861014016 ≤ key a0) (hy : y = a0) (w : World) (T : Tabs tab w) :
    Calls Tryd.prog 4 #[.float .f64 a0] w fun e w' => e = .returned (.bool true) ∧ Below w.heap.size w w' := by
  have H1 := Lib.hid h1
  have W0 := Lib.hid w0
  have HT := Lib.hid (fun o => T.below (below_alloc (Below.refl _ _) o))
  have m1 : nan 4607182418800017408 = false := by decide
  have m2 : nan 13830554455654793216 = false := by decide
  have m3 : nan 4485585228861014016 = false := by decide
  have m4 : nan 13708957265715789824 = false := by decide
  have k1 : key 4607182418800017408 = 4607182418800017408 := by decide
  have k2 : key 13830554455654793216 = -4607182418800017408 := by decide
  have k3 : key 4485585228861014016 = 4485585228861014016 := by decide
  have k4 : key 13708957265715789824 = -4485585228861014016 := by decide
  have hd : decide (rung a0 < infR) = true := by simpa using hf
  subst hy
  generalize hK : key y = K at hk1 hk2
  clear h1 w0 T hf
  go_enter Tryd.func4, Tryd.ntmps4
  go_wp2_with (first | (go_at_call 5; refine (newF64 _ _).mono ?_; rintro e w' ⟨rfl, rfl⟩) | (go_at_call 6; refine (sinF H1.out _ (HT.out _)).mono ?_; rintro e w1 ⟨rfl, hb1⟩; have HB := Lib.hid (below_step (below_alloc (Below.refl _ w) _) hb1); clear hb1) | (go_at_call 8; refine (valueB _ _).mono ?_; rintro e w2 ⟨rfl, hb2⟩; have HB2 := Lib.hid (below_step HB.out hb2); clear hb2) | (go_at_call 9; refine (isFinite _ W0.out _).mono ?_; rintro e w3 ⟨rfl, n, rfl⟩) | (go_at_call 11; refine (sameF_same W0.out _).mono ?_; rintro e w4 ⟨rfl, hb4⟩; have HB4 := Lib.hid (below_step (below_drewN HB2.out n) hb4); clear hb4))
  go_ret
  exact ⟨rfl, HB4.out⟩
theorem tay_pos (a0 y : Nat) (w0 : a0 < 2 ^ 64) (tab : Nat → Int) (h1 : SinIs tab a0 y) (hf : rung a0 < infR) (hn : nan a0 = false) (hk1 : key a0 ≤ 4607182418800017408) (hk2 : -4607182418800017408 ≤ key a0) (hk3 : 4485585228861014016 < key a0) (z : Nat) (hz : ∀ w, Calls Tryd.prog 13 #[.float .f64 a0] w fun e w' => e = .returned (.float .f64 z) ∧ w' = w) (hwi : ∀ w, Calls Tryd.prog 12 #[.float .f64 y, .float .f64 z, .float .f64 4387073039832405526] w fun e w' => e = .returned (.bool true) ∧ w' = w) (w : World) (T : Tabs tab w) :
    Calls Tryd.prog 4 #[.float .f64 a0] w fun e w' => e = .returned (.bool true) ∧ Below w.heap.size w w' := by
  have H1 := Lib.hid h1
  have W0 := Lib.hid w0
  have HT := Lib.hid (fun o => T.below (below_alloc (Below.refl _ _) o))
  have m1 : nan 4607182418800017408 = false := by decide
  have m2 : nan 13830554455654793216 = false := by decide
  have m3 : nan 4485585228861014016 = false := by decide
  have m4 : nan 13708957265715789824 = false := by decide
  have k1 : key 4607182418800017408 = 4607182418800017408 := by decide
  have k2 : key 13830554455654793216 = -4607182418800017408 := by decide
  have k3 : key 4485585228861014016 = 4485585228861014016 := by decide
  have k4 : key 13708957265715789824 = -4485585228861014016 := by decide
  have hd : decide (rung a0 < infR) = true := by simpa using hf
  have HZ := Lib.hid hz
  have HW := Lib.hid hwi
  generalize hK : key a0 = K at hk1 hk2 hk3
  clear h1 w0 T hf hz hwi
  go_enter Tryd.func4, Tryd.ntmps4
  go_wp2_with (first | (go_at_call 5; refine (newF64 _ _).mono ?_; rintro e w' ⟨rfl, rfl⟩) | (go_at_call 6; refine (sinF H1.out _ (HT.out _)).mono ?_; rintro e w1 ⟨rfl, hb1⟩; have HB := Lib.hid (below_step (below_alloc (Below.refl _ w) _) hb1); clear hb1) | (go_at_call 8; refine (valueB _ _).mono ?_; rintro e w2 ⟨rfl, hb2⟩; have HB2 := Lib.hid (below_step HB.out hb2); clear hb2) | (go_at_call 9; refine (isFinite _ W0.out _).mono ?_; rintro e w3 ⟨rfl, n, rfl⟩) | (go_at_call 13; refine (HZ.out _).mono ?_; rintro e w4 ⟨rfl, rfl⟩) | (go_at_call 12; refine (HW.out _).mono ?_; rintro e w4 ⟨rfl, rfl⟩))
  go_ret
  exact ⟨rfl, below_drewN HB2.out _⟩
theorem tay_neg (a0 y : Nat) (w0 : a0 < 2 ^ 64) (tab : Nat → Int) (h1 : SinIs tab a0 y) (hf : rung a0 < infR) (hn : nan a0 = false) (hk1 : key a0 ≤ 4607182418800017408) (hk2 : -4607182418800017408 ≤ key a0) (hk3 : key a0 < -4485585228861014016) (z : Nat) (hz : ∀ w, Calls Tryd.prog 13 #[.float .f64 a0] w fun e w' => e = .returned (.float .f64 z) ∧ w' = w) (hwi : ∀ w, Calls Tryd.prog 12 #[.float .f64 y, .float .f64 z, .float .f64 4387073039832405526] w fun e w' => e = .returned (.bool true) ∧ w' = w) (w : World) (T : Tabs tab w) :
    Calls Tryd.prog 4 #[.float .f64 a0] w fun e w' => e = .returned (.bool true) ∧ Below w.heap.size w w' := by
  have H1 := Lib.hid h1
  have W0 := Lib.hid w0
  have HT := Lib.hid (fun o => T.below (below_alloc (Below.refl _ _) o))
  have m1 : nan 4607182418800017408 = false := by decide
  have m2 : nan 13830554455654793216 = false := by decide
  have m3 : nan 4485585228861014016 = false := by decide
  have m4 : nan 13708957265715789824 = false := by decide
  have k1 : key 4607182418800017408 = 4607182418800017408 := by decide
  have k2 : key 13830554455654793216 = -4607182418800017408 := by decide
  have k3 : key 4485585228861014016 = 4485585228861014016 := by decide
  have k4 : key 13708957265715789824 = -4485585228861014016 := by decide
  have hd : decide (rung a0 < infR) = true := by simpa using hf
  have HZ := Lib.hid hz
  have HW := Lib.hid hwi
  generalize hK : key a0 = K at hk1 hk2 hk3
  clear h1 w0 T hf hz hwi
  go_enter Tryd.func4, Tryd.ntmps4
  go_wp2_with (first | (go_at_call 5; refine (newF64 _ _).mono ?_; rintro e w' ⟨rfl, rfl⟩) | (go_at_call 6; refine (sinF H1.out _ (HT.out _)).mono ?_; rintro e w1 ⟨rfl, hb1⟩; have HB := Lib.hid (below_step (below_alloc (Below.refl _ w) _) hb1); clear hb1) | (go_at_call 8; refine (valueB _ _).mono ?_; rintro e w2 ⟨rfl, hb2⟩; have HB2 := Lib.hid (below_step HB.out hb2); clear hb2) | (go_at_call 9; refine (isFinite _ W0.out _).mono ?_; rintro e w3 ⟨rfl, n, rfl⟩) | (go_at_call 13; refine (HZ.out _).mono ?_; rintro e w4 ⟨rfl, rfl⟩) | (go_at_call 12; refine (HW.out _).mono ?_; rintro e w4 ⟨rfl, rfl⟩))
  go_ret
  exact ⟨rfl, below_drewN HB2.out _⟩

/-- The series is odd. -/
theorem tT_neg (X : Rat) (k : Nat) : tT (-X) k = -tT X k := by
  induction k with
  | zero => rfl
  | succ k ih => simp only [tT, ih]; grind
theorem tS_neg (X : Rat) (k : Nat) : tS (-X) k = -tS X k := by
  induction k with
  | zero => rfl
  | succ k ih => simp only [tS, ih, tT_neg]; grind
theorem series_at {x y : Nat} (tab : Nat → Int) (fx : Fin' x) (fy : Fin' y) (h1 : rv x ≤ 1) (h2 : -1 ≤ rv x) (hs : SinIs tab x y) (b1 : rv y ≤ tS (rv x) 14 + 15 / 2 * eh) (b2 : tS (rv x) 14 - 15 / 2 * eh ≤ rv y) :
    ∃ z, (∀ w, Calls Tryd.prog 13 #[.float .f64 x] w fun e w' => e = .returned (.float .f64 z) ∧ w' = w) ∧ (∀ w, Calls Tryd.prog 12 #[.float .f64 y, .float .f64 z, .float .f64 4387073039832405526] w fun e w' => e = .returned (.bool true) ∧ w' = w) := by
  obtain ⟨q, u, tw, sw, mw, hq, hu, hT, c1, c2⟩ := taylor_words fx h1 h2
  have e : (275239364001 / 309485009821345068724781056 : Rat) ≤ 21 / 2 * eh := by decide +kernel
  exact ⟨sw 14, taylor_walk x q u tw sw mw hq hu hT, within_true fy (hT.fs 14 (by decide)) (by grind) (by grind)⟩
theorem fnSinAgainstTaylor.walk (a0 : Nat) (w0 : a0 < 2 ^ 64) (tab : Nat → Int) (w : World) (T : Tabs tab w) :
    Calls Tryd.prog 4 #[.float .f64 a0] w fun e w' => e = .returned (.bool true) ∧ Below w.heap.size w w' := by
  by_cases hf : rung a0 < infR
  · have fx : Fin' a0 := ⟨w0, hf⟩
    have hn := nan_of_fin fx
    obtain ⟨y, fy, -, -, hs, -⟩ := sin_all w0 hf tab
    by_cases c1 : 4607182418800017408 < key a0
    · exact tay_big a0 y w0 tab hs hf hn c1 w T
    by_cases c2 : key a0 < -4607182418800017408
    · exact tay_low a0 y w0 tab hs hf hn c2 w T
    have k1 : key one' = 4607182418800017408 := by decide
    have kn : key (Op.negFloat .f64 one') = -4607182418800017408 := by decide
    have x1 : rv a0 ≤ 1 := by rw [← rv_one]; exact rv_le_of_key (by rw [k1]; omega)
    have x2 : -1 ≤ rv a0 := by
      have : rv (Op.negFloat .f64 one') = -1 := by rw [rv_neg (by decide), rv_one]
      rw [← this]; exact rv_le_of_key (by rw [kn]; omega)
    clear hs fy y
    rcases word_split w0 hf with ⟨hk, -⟩ | ⟨h0, hi⟩ | ⟨x', h0, hi, hx'⟩
    · exact tay_tiny a0 a0 w0 tab (SinIs.of _ _ _ fun w _ => sin_zero a0 hk hn w) hf hn (by omega) (by omega) rfl w T
    · have ks := key_self hi
      by_cases c3 : a0 ≤ 4485585228861014016
      · exact tay_tiny a0 a0 w0 tab (sin_tiny_is h0 c3 tab).1 hf hn (by omega) (by omega) rfl w T
      · obtain ⟨y, fy, b1, b2, hs, -⟩ := sin_near h0 (show a0 ≤ one' by unfold one'; omega) tab
        obtain ⟨z, hz, hw⟩ := series_at tab fx fy x1 x2 hs b1 b2
        exact tay_pos a0 y w0 tab hs hf hn (by omega) (by omega) (by omega) z hz hw w T
    · have ks := key_self hi
      have h64 := (word_facts hi).2.2.1
      have kx : key a0 = -(x' : Int) := by rw [hx', key_neg h64, ks]
      by_cases c3 : x' ≤ 4485585228861014016
      · have h := (sin_tiny_is h0 c3 tab).2
        rw [← hx'] at h
        exact tay_tiny a0 a0 w0 tab h hf hn (by omega) (by omega) rfl w T
      · obtain ⟨y, fy, b1, b2, -, hs⟩ := sin_near h0 (show x' ≤ one' by unfold one'; omega) tab
        rw [← hx'] at hs
        have rx : rv a0 = -rv x' := by rw [hx', rv_neg h64]
        obtain ⟨z, hz, hw⟩ := series_at tab fx (neg_fin fy) x1 x2 hs (by rw [rv_neg fy.lt, rx, tS_neg]; grind) (by rw [rv_neg fy.lt, rx, tS_neg]; grind)
        exact tay_neg a0 _ w0 tab hs hf hn (by omega) (by omega) (by omega) z hz hw w T
  · obtain ⟨y, hs, hn⟩ := sin_out w0 hf tab
    exact tay_out a0 y w0 tab hs hf hn w T
end Go.Proofs.YtgaodnflifkaiaaDoor

