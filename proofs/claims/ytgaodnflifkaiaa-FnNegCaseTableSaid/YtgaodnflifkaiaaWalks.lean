/- The walks of the two laws on Neg of n011_268: each returns true and writes nothing that was there. -/
import Derived.Test.YtgaodnflifkaiaaF64M
import Derived.OpenShut
import Derived.Deep.RegionHeld3
import Derived.Deep.DrawnRows
import Derived.Lib.Hide
import Derived.IntWalk
import Derived.Outline
import Derived.Test.YtgaodnflifkaiaaF64D
namespace Go.Proofs.Ytgaodnflifkaiaa
open Go.RowKit Go.Fl
set_option linter.unusedVariables false
set_option linter.unusedSimpArgs false
attribute [local go_sem ↓] Go.wp_at_zero Go.wp_at_succ

theorem isNaN' (x : Nat) (w : World) : Calls Try.prog 10 #[.float .f64 x] w fun e w' => e = .returned (.bool (nan x)) ∧ w = w' := by
  cases h : nan x
  all_goals
    go_enter Try.func10, Try.ntmps10
    go_wp2
    go_ret
    exact ⟨rfl, rfl⟩

theorem signNeg (x : Nat) (hn : nan x = false) (w : World) : Calls Try.prog 11 #[.float .f64 x] w fun e w' => e = .returned (.bool (neg x)) ∧ ∃ n, w' = w.drewN n := by
  rcases (show key x < 0 ∨ key x = 0 ∨ 0 < key x by omega) with h | h | h
  · have hs : neg x = true := by unfold key at h; cases hh : neg x <;> rw [hh] at h <;> simp at h ⊢; omega
    rw [hs]
    clear hs
    go_enter Try.func11, Try.ntmps11
    go_wp2
    go_ret
    exact ⟨rfl, 0, rfl⟩
  · have hi := fun w => inv_zero w h
    cases hh : neg x
    all_goals
      rw [hh] at hi
      simp only [if_true, if_false, Bool.false_eq_true] at hi
      go_enter Try.func11, Try.ntmps11
      go_wp2
      go_ret
      exact ⟨rfl, _, rfl⟩
  · have hs : neg x = false := by unfold key at h; cases hh : neg x <;> rw [hh] at h <;> simp at h ⊢; omega
    rw [hs]
    clear hs
    go_enter Try.func11, Try.ntmps11
    go_wp2
    go_ret
    exact ⟨rfl, 0, rfl⟩

theorem same_neg {x y : Nat} (hx : x < 2 ^ 64) (hy : y < 2 ^ 64) (h1 : nan x = false) (h2 : nan y = false) : (decide (key x = key y) && (neg x == neg y)) = sameB x y := by
  rw [Bool.eq_iff_iff]
  simp only [Bool.and_eq_true, decide_eq_true_eq, beq_iff_eq, sameB, h1, h2, Bool.and_self, Bool.false_or]
  constructor
  · rintro ⟨a, b⟩
    refine word_ext hx hy b ?_
    unfold key at a; rw [b] at a; cases hh : neg y <;> rw [hh] at a <;> simp at a <;> omega
  · rintro rfl; exact ⟨rfl, rfl⟩
theorem sameF (x y : Nat) (hx : x < 2 ^ 64) (hy : y < 2 ^ 64) (w : World) : Calls Try.prog 8 #[.float .f64 x, .float .f64 y] w fun e w' => e = .returned (.bool (sameB x y)) ∧ Below w.heap.size w w' := by
  cases h1 : nan x
  · cases h2 : nan y
    · have hs := same_neg hx hy h1 h2
      by_cases hk : key x = key y
      · have HS := Lib.hid hs
        clear hs
        have hd : decide (key x = key y) = true := by simpa using hk
        have HK := Lib.hid hk
        clear hk hx hy
        go_enter Try.func8, Try.ntmps8
        go_wp2_with (first | (go_at_call 10; refine (isNaN' _ _).mono ?_; rintro e w' ⟨rfl, rfl⟩) | (go_at_call 11; refine (signNeg _ (by assumption) _).mono ?_; rintro e w' ⟨rfl, n, rfl⟩))
        go_ret
        refine ⟨ret_bool (by rw [← HS.out]; simp [hd]), ?_⟩
        repeat' (first | exact Below.refl _ _ | refine below_alloc ?_ _ | refine below_drewN ?_ _ | refine Below.drew ?_ | refine below_step ?_ (by assumption))
      · have HS : sameB x y = false := by rw [← hs]; simp [hk]
        rw [HS]
        clear hs hx hy HS
        go_enter Try.func8, Try.ntmps8
        go_wp2_with (first | (go_at_call 10; refine (isNaN' _ _).mono ?_; rintro e w' ⟨rfl, rfl⟩) | (go_at_call 11; refine (signNeg _ (by assumption) _).mono ?_; rintro e w' ⟨rfl, n, rfl⟩))
        go_ret
        exact ⟨rfl, Below.refl _ _⟩
    · have HS : sameB x y = false := by simp [sameB, h1]; intro e; rw [e, h2] at h1; cases h1
      rw [HS]
      clear hx hy HS
      go_enter Try.func8, Try.ntmps8
      go_wp2_with (first | (go_at_call 10; refine (isNaN' _ _).mono ?_; rintro e w' ⟨rfl, rfl⟩) | (go_at_call 11; refine (signNeg _ (by assumption) _).mono ?_; rintro e w' ⟨rfl, n, rfl⟩))
      go_ret
      exact ⟨rfl, Below.refl _ _⟩
  · have HS : sameB x y = nan y := by
      cases h2 : nan y
      · simp [sameB, h2]; intro e; rw [e, h2] at h1; cases h1
      · simp [sameB, h1, h2]
    rw [HS]
    clear hx hy HS
    go_enter Try.func8, Try.ntmps8
    go_wp2_with (first | (go_at_call 10; refine (isNaN' _ _).mono ?_; rintro e w' ⟨rfl, rfl⟩) | (go_at_call 11; refine (signNeg _ (by assumption) _).mono ?_; rintro e w' ⟨rfl, n, rfl⟩))
    go_ret
    exact ⟨rfl, Below.refl _ _⟩

theorem sameF_true (x y : Nat) (hx : x < 2 ^ 64) (hy : y < 2 ^ 64) (h : sameB x y = true) (w : World) : Calls Try.prog 8 #[.float .f64 x, .float .f64 y] w fun e w' => e = .returned (.bool true) ∧ Below w.heap.size w w' :=
  (sameF x y hx hy w).mono fun e w' k => by rw [← h]; exact k

theorem isFinite (x : Nat) (hx : x < 2 ^ 64) (w : World) : Calls Try.prog 9 #[.float .f64 x] w fun e w' => e = .returned (.bool (decide (rung x < infR))) ∧ ∃ n, w' = w.drewN n := by
  rcases cases_word x with h | h | h
  · have hs : ∀ w, nan (fop .sub w x x) = true := fun w => (fop_FR .sub w x x).of_none (sub_self_inf hx (.inl h))
    have hr : decide (rung x < infR) = false := by rw [nan_iff] at h; simp; omega
    rw [hr]
    clear hr hx
    go_enter Try.func9, Try.ntmps9
    go_wp2
    go_ret
    exact ⟨rfl, _, rfl⟩
  · have hs : ∀ w, nan (fop .sub w x x) = true := fun w => (fop_FR .sub w x x).of_none (sub_self_inf hx (.inr h))
    have hr : decide (rung x < infR) = false := by simp; omega
    rw [hr]
    clear hr hx h
    go_enter Try.func9, Try.ntmps9
    go_wp2
    go_ret
    exact ⟨rfl, _, rfl⟩
  · have hs : ∀ w, fop .sub w x x = 0 := fun w => (fop_FR .sub w x x).of_some (sub_self_fin hx h)
    have hr : decide (rung x < infR) = true := by simpa using h
    rw [hr]
    clear hr hx h
    go_enter Try.func9, Try.ntmps9
    go_wp2
    go_ret
    exact ⟨rfl, _, rfl⟩

/-- Nought less a number. -/
theorem zero_sub {x : Nat} (hx : x < 2 ^ 64) (h : nan x = false) : ∃ z, (∀ w, fop .sub w 0 x = z) ∧ nan z = false ∧ key z = - key x := by
  have hnx := negFloat_lt hx
  rcases not_nan_cases h with hi | hf
  · refine ⟨Op.negFloat .f64 x, fun w => (fop_FR .sub w _ _).of_some ?_, by rw [nan_neg hx, h], key_neg hx⟩
    have e0 : Ieee.double.read 0 = .number false 0 (-1074) := by decide
    rw [sub_is_add hx, fb_add, e0, read_inf (x := Op.negFloat .f64 x) (by rw [rung_neg hx, hi])]
    simp only [Ieee.Datum.sum, Option.map_some, write_inf]
    rw [negFloat_eq hx, neg_wd _ (rung_lt x), hi]
  · have v0 : val 0 = 0 := by decide
    have f0 : rung 0 < infR := by decide
    by_cases hz : rung x = 0
    · have hk : key x = 0 := (key_zero_iff x).2 hz
      refine ⟨0, fun w => (fop_FR .sub w _ _).of_some ?_, by decide, by rw [hk]; decide⟩
      rw [sub_is_add hx]
      have hv : val (Op.negFloat .f64 x) = 0 := by unfold val; rw [rung_neg hx, hz, mag_zero]; split <;> rfl
      refine add_exact f0 (by rw [rung_neg hx]; exact hf) (by decide) f0 (by rw [v0, hv]; rfl) ?_
      rw [v0, if_pos rfl]; rfl
    · refine ⟨Op.negFloat .f64 x, fun w => (fop_FR .sub w _ _).of_some ?_, by rw [nan_neg hx, h], key_neg hx⟩
      rw [sub_is_add hx]
      have hm := mag_pos (show 0 < rung x by omega)
      refine add_exact f0 (by rw [rung_neg hx]; exact hf) hnx (by rw [rung_neg hx]; exact hf) (by rw [v0]; omega) ?_
      have hv : val (Op.negFloat .f64 x) = if !neg x then -(mag (rung x) : Int) else (mag (rung x) : Int) := by unfold val; rw [rung_neg hx, neg_neg hx]
      rw [neg_neg hx, hv, if_neg (by split <;> omega)]
      clear hv
      cases neg x <;> simp <;> omega

theorem fnNegCaseTable.walk (a0 : Nat) (w0 : a0 < 2 ^ 64) (w : World) : Calls Try.prog 4 #[.float .f64 a0] w fun e w' => e = .returned (.bool true) ∧ Below w.heap.size w w' := by
  have k0 := key_neg w0
  have n0 := nan_neg w0
  have s0 := neg_neg w0
  cases h : nan a0
  · rw [h] at n0
    obtain ⟨z, hz, nz, kz⟩ := zero_sub w0 h
    by_cases h0 : key a0 = 0
    · rw [h0] at k0
      go_enter Try.func4, Try.ntmps4
      go_wp2_with (first | (go_at_call 5; refine (newF64 _ _).mono ?_; rintro e w' ⟨rfl, rfl⟩) | (go_at_call 6; refine (negF _ _).mono ?_; rintro e w' ⟨rfl, hb⟩) | (go_at_call 7; refine (value _ _).mono ?_; rintro e w' ⟨rfl, rfl⟩) | (go_at_call 10; refine (isNaN' _ _).mono ?_; rintro e w' ⟨rfl, rfl⟩) | (go_at_call 11; refine (signNeg _ (by assumption) _).mono ?_; rintro e w' ⟨rfl, n, rfl⟩))
      go_ret
      refine ⟨ret_bool (by simp [neg_neg w0, key_neg w0, *]), ?_⟩
      repeat' (first | exact Below.refl _ _ | refine below_alloc ?_ _ | refine below_drewN ?_ _ | refine Below.drew ?_ | refine below_step ?_ (by assumption))
    · have h1 : ¬ key (Op.negFloat .f64 a0) = 0 := by omega
      go_enter Try.func4, Try.ntmps4
      go_wp2_with (first | (go_at_call 5; refine (newF64 _ _).mono ?_; rintro e w' ⟨rfl, rfl⟩) | (go_at_call 6; refine (negF _ _).mono ?_; rintro e w' ⟨rfl, hb⟩) | (go_at_call 7; refine (value _ _).mono ?_; rintro e w' ⟨rfl, rfl⟩) | (go_at_call 10; refine (isNaN' _ _).mono ?_; rintro e w' ⟨rfl, rfl⟩) | (go_at_call 11; refine (signNeg _ (by assumption) _).mono ?_; rintro e w' ⟨rfl, n, rfl⟩))
      go_ret
      refine ⟨ret_bool (by simp [neg_neg w0, key_neg w0, *]), ?_⟩
      repeat' (first | exact Below.refl _ _ | refine below_alloc ?_ _ | refine below_drewN ?_ _ | refine Below.drew ?_ | refine below_step ?_ (by assumption))
  · rw [h] at n0
    go_enter Try.func4, Try.ntmps4
    go_wp2_with (first | (go_at_call 5; refine (newF64 _ _).mono ?_; rintro e w' ⟨rfl, rfl⟩) | (go_at_call 6; refine (negF _ _).mono ?_; rintro e w' ⟨rfl, hb⟩) | (go_at_call 7; refine (value _ _).mono ?_; rintro e w' ⟨rfl, rfl⟩) | (go_at_call 10; refine (isNaN' _ _).mono ?_; rintro e w' ⟨rfl, rfl⟩) | (go_at_call 11; refine (signNeg _ (by assumption) _).mono ?_; rintro e w' ⟨rfl, n, rfl⟩))
    go_ret
    refine ⟨ret_bool (by simp [neg_neg w0, key_neg w0, *]), ?_⟩
    repeat' (first | exact Below.refl _ _ | refine below_alloc ?_ _ | refine below_drewN ?_ _ | refine Below.drew ?_ | refine below_step ?_ (by assumption))

theorem add_neg_self {x : Nat} (hx : x < 2 ^ 64) (h : rung x < infR) (w : World) : fop .add w x (Op.negFloat .f64 x) = 0 := by
  refine (fop_FR .add w _ _).of_some ?_
  rw [← sub_is_add hx]; exact sub_self_fin hx h

theorem valueB (x : Nat) (w : World) : Calls Try.prog 7 #[.agg #[.float .f64 x]] w fun e w' => e = .returned (.float .f64 x) ∧ Below w.heap.size w w' :=
  (value x w).mono fun e w' h => ⟨h.1, by rw [h.2]; exact below_alloc (Below.refl _ _) _⟩

theorem fnNegInvolution.walk (a0 : Nat) (w0 : a0 < 2 ^ 64) (w : World) : Calls Try.prog 3 #[.float .f64 a0] w fun e w' => e = .returned (.bool true) ∧ Below w.heap.size w w' := by
  have tok : True := trivial
  have ss : sameB (Op.negFloat .f64 (Op.negFloat .f64 a0)) a0 = true := by rw [negFloat_twice w0]; exact sameB_self a0
  cases hf : decide (rung a0 < infR)
  · skip
    go_enter Try.func3, Try.ntmps3
    go_wp2_with (first | (go_at_call 5; refine (newF64 _ _).mono ?_; rintro e w' ⟨rfl, rfl⟩) | (go_at_call 6; have _t := tok; refine (negF _ _).mono ?_; rintro e w1 ⟨rfl, hb1⟩; clear tok))
    have hc : (w1.alloc (.cells #[.float .f64 (Op.negFloat .f64 a0)] 24)).cell? ⟨w1.heap.size, 0, none⟩ = some (.float .f64 (Op.negFloat .f64 a0)) ∧ w1.heap.size < (w1.alloc (.cells #[.float .f64 (Op.negFloat .f64 a0)] 24)).heap.size ∧ Below w.heap.size w (w1.alloc (.cells #[.float .f64 (Op.negFloat .f64 a0)] 24)) := ⟨by simp, by simp, below_alloc (below_step (below_alloc (Below.refl _ _) _) hb1) _⟩
    clear hb1
    go_wp2_with (first | (go_at_call 7; refine (valueB _ _).mono ?_; rintro e w' ⟨rfl, hb⟩; replace hc := hold_below (A := ⟨w1.heap.size, 0, none⟩) hc hb; clear hb) | (go_at_call 6; refine (negF _ _).mono ?_; rintro e w' ⟨rfl, hb⟩; replace hc := hold_below (A := ⟨w1.heap.size, 0, none⟩) hc hb; clear hb) | (go_at_call 9; refine (isFinite _ w0 _).mono ?_; rintro e w' ⟨rfl, n, rfl⟩; replace hc := hold_below (A := ⟨w1.heap.size, 0, none⟩) hc (below_drewN (Below.refl _ _) n)) | (go_at_call 8; refine (sameF_true _ _ (negFloat_lt (negFloat_lt w0)) w0 (by assumption) _).mono ?_; rintro e w' ⟨rfl, hb⟩; replace hc := hold_below (A := ⟨w1.heap.size, 0, none⟩) hc hb; clear hb))
    go_ret
    exact ⟨ret_bool (by simp), hc.2.2⟩
  · have ha := add_neg_self w0 (by simpa using hf)
    go_enter Try.func3, Try.ntmps3
    go_wp2_with (first | (go_at_call 5; refine (newF64 _ _).mono ?_; rintro e w' ⟨rfl, rfl⟩) | (go_at_call 6; have _t := tok; refine (negF _ _).mono ?_; rintro e w1 ⟨rfl, hb1⟩; clear tok))
    have hc : (w1.alloc (.cells #[.float .f64 (Op.negFloat .f64 a0)] 24)).cell? ⟨w1.heap.size, 0, none⟩ = some (.float .f64 (Op.negFloat .f64 a0)) ∧ w1.heap.size < (w1.alloc (.cells #[.float .f64 (Op.negFloat .f64 a0)] 24)).heap.size ∧ Below w.heap.size w (w1.alloc (.cells #[.float .f64 (Op.negFloat .f64 a0)] 24)) := ⟨by simp, by simp, below_alloc (below_step (below_alloc (Below.refl _ _) _) hb1) _⟩
    clear hb1
    go_wp2_with (first | (go_at_call 7; refine (valueB _ _).mono ?_; rintro e w' ⟨rfl, hb⟩; replace hc := hold_below (A := ⟨w1.heap.size, 0, none⟩) hc hb; clear hb) | (go_at_call 6; refine (negF _ _).mono ?_; rintro e w' ⟨rfl, hb⟩; replace hc := hold_below (A := ⟨w1.heap.size, 0, none⟩) hc hb; clear hb) | (go_at_call 9; refine (isFinite _ w0 _).mono ?_; rintro e w' ⟨rfl, n, rfl⟩; replace hc := hold_below (A := ⟨w1.heap.size, 0, none⟩) hc (below_drewN (Below.refl _ _) n)) | (go_at_call 8; refine (sameF_true _ _ (negFloat_lt (negFloat_lt w0)) w0 (by assumption) _).mono ?_; rintro e w' ⟨rfl, hb⟩; replace hc := hold_below (A := ⟨w1.heap.size, 0, none⟩) hc hb; clear hb))
    go_ret
    exact ⟨ret_bool (by simp), below_drewN hc.2.2 _⟩

end Go.Proofs.Ytgaodnflifkaiaa
