/- The walk of FnSinOddBounded. -/
import Derived.Test.YtgaodnflifkaiaaDoorSo
namespace Go.Proofs.YtgaodnflifkaiaaDoor
open Go.RowKit Go.Fl
set_option linter.unusedVariables false
set_option linter.unusedSimpArgs false
attribute [local go_sem ↓] Go.wp_at_zero Go.wp_at_succ

theorem Tabs.size {tab : Nat → Int} {w : World} (T : Tabs tab w) : 3 < w.heap.size := by
  have h := T.p.h 0 (by decide)
  refine Nat.lt_of_not_le fun hle => ?_
  have : w.heap[3]? = none := Array.getElem?_eq_none hle
  simp [World.cell?, this] at h
theorem Tabs.below {tab : Nat → Int} {w w' : World} (T : Tabs tab w) (hb : Below w.heap.size w w') : Tabs tab w' := by
  have h3 := T.size
  have c : ∀ g i : Nat, g ≤ 3 → w'.cell? ⟨g, i, none⟩ = w.cell? ⟨g, i, none⟩ := fun g i hg => hb.cell (Nat.lt_of_le_of_lt hg h3)
  obtain ⟨s, c', p⟩ := T
  exact ⟨⟨(c _ _ (by decide)).trans s.h0, (c _ _ (by decide)).trans s.h1, (c _ _ (by decide)).trans s.h2, (c _ _ (by decide)).trans s.h3, (c _ _ (by decide)).trans s.h4, (c _ _ (by decide)).trans s.h5⟩,
    ⟨(c _ _ (by decide)).trans c'.h0, (c _ _ (by decide)).trans c'.h1, (c _ _ (by decide)).trans c'.h2, (c _ _ (by decide)).trans c'.h3, (c _ _ (by decide)).trans c'.h4, (c _ _ (by decide)).trans c'.h5⟩,
    ⟨fun i hi => (c _ _ (by decide)).trans (p.h i hi)⟩⟩

theorem sinM {tab : Nat → Int} {x y : Nat} (h : SinIs tab x y) (w : World) (T : Tabs tab w) : Calls Tryd.prog 14 #[.float .f64 x] w fun e w' => e = .returned (.float .f64 y) ∧ ∃ n, w' = w.drewN n := by
  have H := Lib.hid h
  have HT := Lib.hid T
  clear h T
  go_enter Tryd.func14, Tryd.ntmps14
  go_wp2_with (go_at_call 17; refine (H.out _ HT.out).mono ?_; rintro e w' ⟨rfl, n, rfl⟩)
  go_ret
  exact ⟨rfl, _, rfl⟩
theorem sinF {tab : Nat → Int} {x y : Nat} (h : SinIs tab x y) (w : World) (T : Tabs tab w) : Calls Tryd.prog 6 #[.agg #[.float .f64 x]] w (GivesJust y w) := by
  have H := Lib.hid h
  have HT := Lib.hid (fun o1 o2 => (T.below (below_alloc (Below.refl _ _) o1)).below (below_alloc (Below.refl _ _) o2))
  clear h T
  go_enter Tryd.func6, Tryd.ntmps6
  go_wp2_with (first | (go_at_call 14; refine (sinM H.out _ (HT.out _ _)).mono ?_; rintro e w' ⟨rfl, n, rfl⟩) | (go_at_call 5; refine (newF64 _ _).mono ?_; rintro e w' ⟨rfl, rfl⟩))
  refine bodyPost_ret (v := .agg #[.float .f64 _]) (by simp [results, Tryd.results6, go_sem]) rfl ⟨rfl, ?_⟩
  repeat' (first | exact Below.refl _ _ | refine Below.alloc ?_ ?_ _ | refine Below.setCell ?_ ?_ _ | refine below_drewN ?_ _ | (simp <;> omega))
/-! ### the law -/
theorem isFinite (x : Nat) (hx : x < 2 ^ 64) (w : World) : Calls Tryd.prog 9 #[.float .f64 x] w fun e w' => e = .returned (.bool (decide (rung x < infR))) ∧ ∃ n, w' = w.drewN n := by
  rcases cases_word x with h | h | h
  · have hs : ∀ w, nan (fop .sub w x x) = true := fun w => (fop_FR .sub w x x).of_none (sub_self_inf hx (.inl h))
    have hr : decide (rung x < infR) = false := by rw [nan_iff] at h; simp; omega
    rw [hr]
    clear hr hx
    go_enter Tryd.func9, Tryd.ntmps9
    go_wp2
    go_ret
    exact ⟨rfl, _, rfl⟩
  · have hs : ∀ w, nan (fop .sub w x x) = true := fun w => (fop_FR .sub w x x).of_none (sub_self_inf hx (.inr h))
    have hr : decide (rung x < infR) = false := by simp; omega
    rw [hr]
    clear hr hx h
    go_enter Tryd.func9, Tryd.ntmps9
    go_wp2
    go_ret
    exact ⟨rfl, _, rfl⟩
  · have hs : ∀ w, fop .sub w x x = 0 := fun w => (fop_FR .sub w x x).of_some (sub_self_fin hx h)
    have hr : decide (rung x < infR) = true := by simpa using h
    rw [hr]
    clear hr hx h
    go_enter Tryd.func9, Tryd.ntmps9
    go_wp2
    go_ret
    exact ⟨rfl, _, rfl⟩

theorem valueB (x : Nat) (w : World) : Calls Tryd.prog 8 #[.agg #[.float .f64 x]] w fun e w' => e = .returned (.float .f64 x) ∧ Below w.heap.size w w' :=
  (value x w).mono fun e w' h => ⟨h.1, by rw [h.2]; exact below_alloc (Below.refl _ _) _⟩
theorem newF64B (x : Nat) (w : World) : Calls Tryd.prog 5 #[.float .f64 x] w fun e w' => e = .returned (.agg #[.float .f64 x]) ∧ Below w.heap.size w w' :=
  (newF64 x w).mono fun e w' h => ⟨h.1, by rw [h.2]; exact below_alloc (Below.refl _ _) _⟩
theorem sameF_same {y : Nat} (hy : y < 2 ^ 64) (w : World) : Calls Tryd.prog 11 #[.float .f64 y, .float .f64 y] w fun e w' => e = .returned (.bool true) ∧ Below w.heap.size w w' :=
  (sameF y y hy hy w).mono fun e w' k => by rw [sameB_self] at k; exact k

theorem odd_fin (a0 y : Nat) (w0 : a0 < 2 ^ 64) (hf : rung a0 < infR) (tab : Nat → Int) (h1 : SinIs tab a0 y) (h2 : SinIs tab (Op.negFloat .f64 a0) (Op.negFloat .f64 y)) (hy : y < 2 ^ 64) (hn : nan y = false) (k1 : key y ≤ key 4607182418800017408) (k2 : key 13830554455654793216 ≤ key y) (w : World) (T : Tabs tab w) :
    Calls Tryd.prog 3 #[.float .f64 a0] w fun e w' => e = .returned (.bool true) ∧ Below w.heap.size w w' := by
  have tok : True := trivial
  have tok2 : True := trivial
  have H1 := Lib.hid h1
  have H2 := Lib.hid h2
  have W0 := Lib.hid w0
  have Y2 := Lib.hid (negFloat_lt hy)
  have HT := Lib.hid (fun w' (hb : Below w.heap.size w w') => T.below hb)
  have hd : decide (rung a0 < infR) = true := by simpa using hf
  have n1 : nan 4607182418800017408 = false := by decide
  have n2 : nan 13830554455654793216 = false := by decide
  clear h1 h2 w0 T hf hy
  go_enter Tryd.func3, Tryd.ntmps3
  go_wp2_with (first | (go_at_call 5; have _u := tok2; refine (newF64 _ _).mono ?_; rintro e w' ⟨rfl, rfl⟩; clear tok2 _u) | (go_at_call 6; have _t := tok; refine (sinF H1.out _ (HT.out _ (below_alloc (Below.refl _ _) _))).mono ?_; rintro e w1 ⟨rfl, hb1⟩; clear tok _t))
  have hc : (w1.alloc (.cells #[.float .f64 y] 24)).cell? ⟨w1.heap.size, 0, none⟩ = some (.float .f64 y) ∧ w1.heap.size < (w1.alloc (.cells #[.float .f64 y] 24)).heap.size ∧ Below w.heap.size w (w1.alloc (.cells #[.float .f64 y] 24)) := ⟨by simp, by simp, below_alloc (below_step (below_alloc (Below.refl _ _) _) hb1) _⟩
  clear hb1
  go_wp2_with (first | (go_at_call 5; refine (newF64B _ _).mono ?_; rintro e w' ⟨rfl, hb⟩; replace hc := hold_below (A := ⟨w1.heap.size, 0, none⟩) hc hb; clear hb) | (go_at_call 8; refine (valueB _ _).mono ?_; rintro e w' ⟨rfl, hb⟩; replace hc := hold_below (A := ⟨w1.heap.size, 0, none⟩) hc hb; clear hb) | (go_at_call 7; refine (negF _ _).mono ?_; rintro e w' ⟨rfl, hb⟩; replace hc := hold_below (A := ⟨w1.heap.size, 0, none⟩) hc hb; clear hb) | (go_at_call 6; refine (sinF H2.out _ (HT.out _ hc.2.2)).mono ?_; rintro e w' ⟨rfl, hb⟩; replace hc := hold_below (A := ⟨w1.heap.size, 0, none⟩) hc hb; clear hb) | (go_at_call 9; refine (isFinite _ W0.out _).mono ?_; rintro e w' ⟨rfl, n, rfl⟩; replace hc := hold_below (A := ⟨w1.heap.size, 0, none⟩) hc (below_drewN (Below.refl _ _) n)) | (go_at_call 11; refine (sameF_same Y2.out _).mono ?_; rintro e w' ⟨rfl, hb⟩; replace hc := hold_below (A := ⟨w1.heap.size, 0, none⟩) hc hb; clear hb))
  go_ret
  exact ⟨ret_bool (by simp [*]; omega), hc.2.2⟩

theorem odd_out (a0 y z : Nat) (w0 : a0 < 2 ^ 64) (hf : ¬ rung a0 < infR) (tab : Nat → Int) (h1 : SinIs tab a0 y) (h2 : SinIs tab (Op.negFloat .f64 a0) z) (hn : nan y = true) (hn2 : nan z = true) (w : World) (T : Tabs tab w) :
    Calls Tryd.prog 3 #[.float .f64 a0] w fun e w' => e = .returned (.bool true) ∧ Below w.heap.size w w' := by
  have tok : True := trivial
  have tok2 : True := trivial
  have H1 := Lib.hid h1
  have H2 := Lib.hid h2
  have W0 := Lib.hid w0
  have HT := Lib.hid (fun w' (hb : Below w.heap.size w w') => T.below hb)
  have hd : decide (rung a0 < infR) = false := by simpa using hf
  clear h1 h2 w0 T hf
  go_enter Tryd.func3, Tryd.ntmps3
  go_wp2_with (first | (go_at_call 5; have _u := tok2; refine (newF64 _ _).mono ?_; rintro e w' ⟨rfl, rfl⟩; clear tok2 _u) | (go_at_call 6; have _t := tok; refine (sinF H1.out _ (HT.out _ (below_alloc (Below.refl _ _) _))).mono ?_; rintro e w1 ⟨rfl, hb1⟩; clear tok _t))
  have hc : (w1.alloc (.cells #[.float .f64 y] 24)).cell? ⟨w1.heap.size, 0, none⟩ = some (.float .f64 y) ∧ w1.heap.size < (w1.alloc (.cells #[.float .f64 y] 24)).heap.size ∧ Below w.heap.size w (w1.alloc (.cells #[.float .f64 y] 24)) := ⟨by simp, by simp, below_alloc (below_step (below_alloc (Below.refl _ _) _) hb1) _⟩
  clear hb1
  go_wp2_with (first | (go_at_call 5; refine (newF64B _ _).mono ?_; rintro e w' ⟨rfl, hb⟩; replace hc := hold_below (A := ⟨w1.heap.size, 0, none⟩) hc hb; clear hb) | (go_at_call 8; refine (valueB _ _).mono ?_; rintro e w' ⟨rfl, hb⟩; replace hc := hold_below (A := ⟨w1.heap.size, 0, none⟩) hc hb; clear hb) | (go_at_call 7; refine (negF _ _).mono ?_; rintro e w' ⟨rfl, hb⟩; replace hc := hold_below (A := ⟨w1.heap.size, 0, none⟩) hc hb; clear hb) | (go_at_call 6; refine (sinF H2.out _ (HT.out _ hc.2.2)).mono ?_; rintro e w' ⟨rfl, hb⟩; replace hc := hold_below (A := ⟨w1.heap.size, 0, none⟩) hc hb; clear hb) | (go_at_call 9; refine (isFinite _ W0.out _).mono ?_; rintro e w' ⟨rfl, n, rfl⟩; replace hc := hold_below (A := ⟨w1.heap.size, 0, none⟩) hc (below_drewN (Below.refl _ _) n)) | (go_at_call 10; refine (isNaN' _ _).mono ?_; rintro e w' ⟨rfl, rfl⟩))
  go_ret
  exact ⟨ret_bool (by simp [*]), hc.2.2⟩

/-- At what is no finite number. -/
theorem sin_out {x : Nat} (hx : x < 2 ^ 64) (hf : ¬ rung x < infR) (tab : Nat → Int) : ∃ y, SinIs tab x y ∧ nan y = true := by
  cases hn : nan x
  · have hi : rung x = infR := by unfold nan at hn; simp only [decide_eq_false_iff_not] at hn; omega
    exact ⟨_, SinIs.of _ _ _ fun w _ => sin_inf x hx hn hi w, by decide⟩
  · exact ⟨x, SinIs.of _ _ _ fun w _ => sin_nan x hn w, hn⟩
theorem fnSinOddBounded.walk (a0 : Nat) (w0 : a0 < 2 ^ 64) (tab : Nat → Int) (w : World) (T : Tabs tab w) :
    Calls Tryd.prog 3 #[.float .f64 a0] w fun e w' => e = .returned (.bool true) ∧ Below w.heap.size w w' := by
  by_cases hf : rung a0 < infR
  · obtain ⟨y, f, y1, y2, h1, h2⟩ := sin_all w0 hf tab
    obtain ⟨k1, k2, hn⟩ := key_one f y1 y2
    exact odd_fin a0 y w0 hf tab h1 h2 f.lt hn k1 (by have : Op.negFloat .f64 one' = 13830554455654793216 := by decide
                                                      rw [this] at k2; exact k2) w T
  · obtain ⟨y, h1, n1⟩ := sin_out w0 hf tab
    obtain ⟨z, h2, n2⟩ := sin_out (negFloat_lt w0) (by rw [rung_neg w0]; exact hf) tab
    exact odd_out a0 y z w0 hf tab h1 h2 n1 n2 w T
end Go.Proofs.YtgaodnflifkaiaaDoor
