/- The walks of the laws of n011_43: each returns true and writes nothing that was there. -/
import Derived.Test.YtpjkjkbekcjlhaaF64M
import Derived.OpenShut
import Derived.Deep.RegionHeld3
import Derived.Deep.DrawnRows
import Derived.Lib.Hide
import Derived.IntWalk
import Derived.Outline
import Derived.Test.YtpjkjkbekcjlhaaF64D
namespace Go.Proofs.Ytpjkjkbekcjlhaa
open Go.RowKit Go.Fl
set_option linter.unusedVariables false
set_option linter.unusedSimpArgs false
attribute [local go_sem ↓] Go.wp_at_zero Go.wp_at_succ

theorem sameF (x y : Nat) (hx : x < 2 ^ 64) (hy : y < 2 ^ 64) (w : World) : Calls Try.prog 11 #[.float .f64 x, .float .f64 y] w fun e w' => e = .returned (.bool (sameB x y)) ∧ Below w.heap.size w w' := by
  rcases same_cases hx hy with ⟨h1, h2, h3⟩ | ⟨h1, h2, h3⟩ | ⟨h1, h2, h3⟩ | ⟨h1, h2, h4, h5, h3⟩ | ⟨h1, h2, h4, h5, h3⟩ | ⟨h1, h2, h4, h5, rfl⟩ | ⟨h1, h2, h4, h5, rfl⟩ | ⟨h1, h2, h4, h5, h6, h7, h3⟩ | ⟨h1, h2, h4, h5, h6, h7, h3⟩ | ⟨h1, h2, h4, h5, h6, h7, h3⟩ | ⟨h1, h2, h4, h5, h6, h7, h3⟩
  all_goals
    first | rw [h3] | rw [sameB_self]
    clear hx
    try clear hy
    go_enter Try.func11, Try.ntmps11
    go_wp2
    all_goals go_ret
    all_goals refine ⟨ret_bool (by simp <;> omega), ?_⟩
    all_goals repeat' (first | exact Below.refl _ _ | refine Below.alloc ?_ ?_ _ | refine Below.setCell ?_ ?_ _ | refine below_drewN ?_ _ | refine Below.drew ?_ | (simp <;> omega) | omega)

theorem sameF_true (x y : Nat) (hx : x < 2 ^ 64) (hy : y < 2 ^ 64) (h : sameB x y = true) (w : World) : Calls Try.prog 11 #[.float .f64 x, .float .f64 y] w fun e w' => e = .returned (.bool true) ∧ Below w.heap.size w w' :=
  (sameF x y hx hy w).mono fun e w' k => by rw [← h]; exact k

/-- What doubling and halving gives. -/
theorem half_double {x r s : Nat} (hx : x < 2 ^ 64) (h1 : nan x = false → key x ≤ 9199863512903218227) (h2 : nan x = false → -9199863512903218227 ≤ key x) (hr : FR .mul x 4611686018427387904 r) (hs : FR .quo r 4611686018427387904 s) : sameB s x = true := by
  cases nx : nan x
  · have k1 := h1 nx
    have k2 := h2 nx
    have hb : rung x ≤ 9199863512903218227 := by unfold key at k1 k2; split at k1 <;> rename_i hn <;> simp only [hn, if_true, if_false] at k2 <;> omega
    have hd : dbl (rung x) < infR := by unfold dbl infR; split <;> omega
    have hf : rung x < infR := by unfold infR; omega
    have hd63 : dbl (rung x) < 2 ^ 63 := Nat.lt_trans hd infR_lt
    have e1 := hr.of_some (mul_two hx hf hd)
    have e2 : floatBits .quo .f64 r 4611686018427387904 = some x := by
      rw [e1]
      refine quo_two hx hf (by rw [rung_wd _ hd63]; exact hd) (neg_wd _ hd63) ?_
      rw [rung_wd _ hd63, mag_dbl]
    rw [hs.of_some e2]; exact sameB_self x
  · have e1 := hr.of_none (mul_nan nx)
    have e2 := hs.of_none (quo_nan e1)
    simp [sameB, nx, e2]

theorem fnDoubleThenHalveReturnsInput.walk (a0 : Nat) (w0 : a0 < 2 ^ 64) (w : World) : Calls Try.prog 3 #[.float .f64 a0] w fun e w' => e = .returned (.bool true) ∧ Below w.heap.size w w' := by
  have n1 : nan 9199863512903218227 = false := by decide
  have n2 : nan 18423235549757994035 = false := by decide
  have k1 : key 9199863512903218227 = 9199863512903218227 := by decide
  have k2 : key 18423235549757994035 = -9199863512903218227 := by decide
  cases nx : nan a0
  · by_cases c1 : 9199863512903218227 < key a0
    · go_enter Try.func3, Try.ntmps3
      go_wp2
      go_ret
      exact ⟨rfl, Below.refl _ _⟩
    by_cases c2 : key a0 < -9199863512903218227
    · go_enter Try.func3, Try.ntmps3
      go_wp2
      go_ret
      exact ⟨rfl, Below.refl _ _⟩
    go_enter Try.func3, Try.ntmps3
    go_wp2_with (first | (go_at_call 7; refine (newF64 _ _).mono ?_; rintro e w' ⟨rfl, rfl⟩) | (go_at_call 8; refine (mulConstF _ _ _).mono ?_; rintro e w' ⟨r, hr, rfl, hb1⟩) | (go_at_call 9; refine (divConstF _ _ _).mono ?_; rintro e w' ⟨s, hs, rfl, hb2⟩) | (go_at_call 10; refine (value _ _).mono ?_; rintro e w' ⟨rfl, rfl⟩) | (go_at_call 11; refine (sameF _ _ hs.lt w0 _).mono ?_; rintro e w' ⟨rfl, hb3⟩))
    have HS := half_double w0 (fun _ => by omega) (fun _ => by omega) hr hs
    go_ret
    refine ⟨ret_bool (by simp [HS]), ?_⟩
    have hz1 := hb1.size
    have hz2 := hb2.size
    have hz3 := hb3.size
    simp at hz1 hz2 hz3
    repeat' (first | exact Below.refl _ _ | refine Below.alloc ?_ ?_ _ | refine Below.setCell ?_ ?_ _ | refine below_drewN ?_ _ | refine Below.drew ?_ | refine Below.trans ?_ (hb3.mono ?_) | refine Below.trans ?_ (hb2.mono ?_) | refine Below.trans ?_ (hb1.mono ?_) | (simp <;> omega) | omega)
  · go_enter Try.func3, Try.ntmps3
    go_wp2_with (first | (go_at_call 7; refine (newF64 _ _).mono ?_; rintro e w' ⟨rfl, rfl⟩) | (go_at_call 8; refine (mulConstF _ _ _).mono ?_; rintro e w' ⟨r, hr, rfl, hb1⟩) | (go_at_call 9; refine (divConstF _ _ _).mono ?_; rintro e w' ⟨s, hs, rfl, hb2⟩) | (go_at_call 10; refine (value _ _).mono ?_; rintro e w' ⟨rfl, rfl⟩) | (go_at_call 11; refine (sameF _ _ hs.lt w0 _).mono ?_; rintro e w' ⟨rfl, hb3⟩))
    have HS := half_double w0 (fun h => by rw [nx] at h; cases h) (fun h => by rw [nx] at h; cases h) hr hs
    go_ret
    refine ⟨ret_bool (by simp [HS]), ?_⟩
    have hz1 := hb1.size
    have hz2 := hb2.size
    have hz3 := hb3.size
    simp at hz1 hz2 hz3
    repeat' (first | exact Below.refl _ _ | refine Below.alloc ?_ ?_ _ | refine Below.setCell ?_ ?_ _ | refine below_drewN ?_ _ | refine Below.drew ?_ | refine Below.trans ?_ (hb3.mono ?_) | refine Below.trans ?_ (hb2.mono ?_) | refine Below.trans ?_ (hb1.mono ?_) | (simp <;> omega) | omega)

theorem fnDivSelfIsOneOrNaN.walk (a0 : Nat) (w0 : a0 < 2 ^ 64) (w : World) : Calls Try.prog 5 #[.float .f64 a0] w fun e w' => e = .returned (.bool true) ∧ Below w.heap.size w w' := by
  have n1 : nan 4607182418800017408 = false := by decide
  have k1 : key 4607182418800017408 = 4607182418800017408 := by decide
  rcases cases_word a0 with h | h | h
  · have hs : ∀ w, nan (fop .sub w a0 a0) = true := fun w => (fop_FR .sub w a0 a0).of_none (sub_self_inf w0 (.inl h))
    go_enter Try.func5, Try.ntmps5
    go_wp2_with (first | (go_at_call 7; refine (newF64 _ _).mono ?_; rintro e w' ⟨rfl, rfl⟩) | (go_at_call 13; refine (divF _ _ _).mono ?_; rintro e w' ⟨r, hr, rfl, hb1⟩) | (go_at_call 10; refine (value _ _).mono ?_; rintro e w' ⟨rfl, rfl⟩))
    have hn := hr.of_none (quo_self_none (.inl h))
    all_goals go_ret
    all_goals refine ⟨ret_bool (by simp [hn]), ?_⟩
    all_goals have hz1 := hb1.size
    all_goals simp at hz1
    all_goals repeat' (first | exact Below.refl _ _ | refine Below.alloc ?_ ?_ _ | refine Below.setCell ?_ ?_ _ | refine below_drewN ?_ _ | refine Below.drew ?_ | refine Below.trans ?_ (hb1.mono ?_) | (simp <;> omega) | omega)
  · have h' : nan a0 = false := not_nan (by omega)
    have hs : ∀ w, nan (fop .sub w a0 a0) = true := fun w => (fop_FR .sub w a0 a0).of_none (sub_self_inf w0 (.inr h))
    clear h'
    go_enter Try.func5, Try.ntmps5
    go_wp2_with (first | (go_at_call 7; refine (newF64 _ _).mono ?_; rintro e w' ⟨rfl, rfl⟩) | (go_at_call 13; refine (divF _ _ _).mono ?_; rintro e w' ⟨r, hr, rfl, hb1⟩) | (go_at_call 10; refine (value _ _).mono ?_; rintro e w' ⟨rfl, rfl⟩))
    have hn := hr.of_none (quo_self_none (.inr (.inl h)))
    all_goals go_ret
    all_goals refine ⟨ret_bool (by simp [hn]), ?_⟩
    all_goals have hz1 := hb1.size
    all_goals simp at hz1
    all_goals repeat' (first | exact Below.refl _ _ | refine Below.alloc ?_ ?_ _ | refine Below.setCell ?_ ?_ _ | refine below_drewN ?_ _ | refine Below.drew ?_ | refine Below.trans ?_ (hb1.mono ?_) | (simp <;> omega) | omega)
  · have h' : nan a0 = false := not_nan (by omega)
    have hs : ∀ w, fop .sub w a0 a0 = 0 := fun w => (fop_FR .sub w a0 a0).of_some (sub_self_fin w0 h)
    by_cases hz : key a0 = 0
    · have hr0 := (key_zero_iff a0).1 hz
      have HR0 := Lib.hid hr0
      clear h hr0
      go_enter Try.func5, Try.ntmps5
      go_wp2_with (first | (go_at_call 7; refine (newF64 _ _).mono ?_; rintro e w' ⟨rfl, rfl⟩) | (go_at_call 13; refine (divF _ _ _).mono ?_; rintro e w' ⟨r, hr, rfl, hb1⟩) | (go_at_call 10; refine (value _ _).mono ?_; rintro e w' ⟨rfl, rfl⟩))
      have hn := hr.of_none (quo_self_none (.inr (.inr HR0.out)))
      all_goals go_ret
      all_goals refine ⟨ret_bool (by simp [hn]), ?_⟩
      all_goals have hz1 := hb1.size
      all_goals simp at hz1
      all_goals repeat' (first | exact Below.refl _ _ | refine Below.alloc ?_ ?_ _ | refine Below.setCell ?_ ?_ _ | refine below_drewN ?_ _ | refine Below.drew ?_ | refine Below.trans ?_ (hb1.mono ?_) | (simp <;> omega) | omega)
    · have HH := Lib.hid (quo_self h (fun h0 => hz ((key_zero_iff a0).2 h0)))
      clear h
      go_enter Try.func5, Try.ntmps5
      go_wp2_with (first | (go_at_call 7; refine (newF64 _ _).mono ?_; rintro e w' ⟨rfl, rfl⟩) | (go_at_call 13; refine (divF _ _ _).mono ?_; rintro e w' ⟨r, hr, rfl, hb1⟩) | (go_at_call 10; refine (value _ _).mono ?_; rintro e w' ⟨rfl, rfl⟩))
      have hn := hr.of_some HH.out
      all_goals go_ret
      all_goals refine ⟨ret_bool (by simp [hn, n1, k1]), ?_⟩
      all_goals have hz1 := hb1.size
      all_goals simp at hz1
      all_goals repeat' (first | exact Below.refl _ _ | refine Below.alloc ?_ ?_ _ | refine Below.setCell ?_ ?_ _ | refine below_drewN ?_ _ | refine Below.drew ?_ | refine Below.trans ?_ (hb1.mono ?_) | (simp <;> omega) | omega)

theorem fnMulExactOnIntegers.walk (a0 : Int) (w0 : (Lit.int .i64 a0).wf = true) (a1 : Int) (w1 : (Lit.int .i64 a1).wf = true) (w : World) : Calls Try.prog 6 #[.int .i64 a0, .int .i64 a1] w fun e w' => e = .returned (.bool true) ∧ Below w.heap.size w w' := by
  clear w0 w1
  by_cases c0 : a0 < -67108864
  · go_enter Try.func6, Try.ntmps6
    go_wp2
    go_ret
    exact ⟨rfl, Below.refl _ _⟩
  by_cases c1 : 67108864 < a0
  · go_enter Try.func6, Try.ntmps6
    go_wp2
    go_ret
    exact ⟨rfl, Below.refl _ _⟩
  by_cases c2 : a1 < -67108864
  · go_enter Try.func6, Try.ntmps6
    go_wp2
    go_ret
    exact ⟨rfl, Below.refl _ _⟩
  by_cases c3 : 67108864 < a1
  · go_enter Try.func6, Try.ntmps6
    go_wp2
    go_ret
    exact ⟨rfl, Below.refl _ _⟩
  have b1 : (a0 * a1).natAbs ≤ 2 ^ 26 * 2 ^ 26 := by rw [Int.natAbs_mul]; exact Nat.mul_le_mul (by omega) (by omega)
  have hw : IntKind.i64.wrap (a0 * a1) = a0 * a1 := IntWalk.i64_in _ (by omega)
  have HM := Lib.hid (mul_ints (i := a0) (j := a1) (by omega) (by omega))
  have hf := (is_int (a0 * a1) (by omega)).not_nan
  clear b1
  go_enter Try.func6, Try.ntmps6
  go_wp2_with (first | (go_at_call 7; refine (newF64 _ _).mono ?_; rintro e w' ⟨rfl, rfl⟩) | (go_at_call 14; refine (mulF _ _ _).mono ?_; rintro e w' ⟨r, hr, rfl, hb1⟩) | (go_at_call 10; refine (value _ _).mono ?_; rintro e w' ⟨rfl, rfl⟩))
  obtain ⟨z, hz, nz, kz⟩ := HM.out
  have hn := hr.of_some hz
  go_ret
  refine ⟨ret_bool (by simp [hn, nz, kz, hf]), ?_⟩
  have hz1 := hb1.size
  simp at hz1
  repeat' (first | exact Below.refl _ _ | refine Below.alloc ?_ ?_ _ | refine Below.setCell ?_ ?_ _ | refine below_drewN ?_ _ | refine Below.drew ?_ | refine Below.trans ?_ (hb1.mono ?_) | (simp <;> omega) | omega)

theorem fnMulConstByUnits.walk (a0 : Nat) (w0 : a0 < 2 ^ 64) (w : World) : Calls Try.prog 4 #[.float .f64 a0] w fun e w' => e = .returned (.bool true) ∧ Below w.heap.size w w' := by
  have HS : ∀ r, FR .mul a0 4607182418800017408 r → sameB r a0 = true := by
    intro r hr
    cases nx : nan a0
    · rw [hr.of_some (mul_one w0 nx)]; exact sameB_self a0
    · simp [sameB, nx, hr.of_none (mul_nan nx)]
  have HT : ∀ r, FR .mul a0 13830554455654793216 r → sameB r (Op.negFloat .f64 a0) = true := by
    intro r hr
    cases nx : nan a0
    · rw [hr.of_some (mul_negone w0 nx)]; exact sameB_self _
    · simp [sameB, nan_neg w0, nx, hr.of_none (mul_nan nx)]
  replace HS := Lib.hid HS
  replace HT := Lib.hid HT
  go_enter Try.func4, Try.ntmps4
  go_wp2_with (first | (go_at_call 7; refine (newF64 _ _).mono ?_; rintro e w' ⟨rfl, rfl⟩) | (go_at_call 8; refine (mulConstF _ _ _).mono ?_; rintro e w' ⟨r, hr, rfl, hb1⟩) | (go_at_call 10; refine (value _ _).mono ?_; rintro e w' ⟨rfl, rfl⟩) | (go_at_call 11; refine (sameF_true _ _ hr.lt w0 (HS.out _ hr) _).mono ?_; rintro e w' ⟨rfl, hb2⟩))
  have hc := hold_below (A := ⟨w.heap.size + 1, 0, none⟩) (hold_alloc (A := ⟨w.heap.size + 1, 0, none⟩) (hold_below (A := ⟨w.heap.size + 1, 0, none⟩) (v := .float .f64 a0) (w0 := w) ⟨by simp, by simp, (((Below.refl _ _).alloc (Nat.le_refl _) _).alloc (by simp) _)⟩ hb1) _) hb2
  clear hb1 hb2 hr
  go_region_held3 (fun w' => w'.cell? ⟨w.heap.size + 1, 0, none⟩ = some (.float .f64 a0) ∧ w.heap.size + 1 < w'.heap.size ∧ Below w.heap.size w w')
    (first
      | (go_split_ands; exact hold_below (A := ⟨w.heap.size + 1, 0, none⟩) ⟨by assumption, by assumption, by assumption⟩ hb)
      | (go_split_ands; exact hold_alloc (A := ⟨w.heap.size + 1, 0, none⟩) ⟨by assumption, by assumption, by assumption⟩ _)
      | exact ⟨hc.1, hc.2.1, hc.2.2.drew⟩)
    (first
      | (go_at_call 8; refine (mulConstF _ _ _).mono ?_; rintro e w' ⟨s, hs, rfl, hb⟩)
      | (go_at_call 10; refine (value _ _).mono ?_; rintro e w' ⟨rfl, rfl⟩)
      | (go_at_call 12; refine (negF _ _).mono ?_; rintro e w' ⟨rfl, hb⟩)
      | (go_at_call 11; refine (sameF_true _ _ hs.lt (negFloat_lt w0) (HT.out _ hs) _).mono ?_; rintro e w' ⟨rfl, hb⟩))
  go_wp2
  go_ret
  go_split_ands
  refine ⟨rfl, by assumption⟩

end Go.Proofs.Ytpjkjkbekcjlhaa
