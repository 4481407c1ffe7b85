/- The walks of the laws of n011_195: each returns true and writes nothing that was there. -/
import Derived.Test.YtpobcpnikbiiiaaF64M
import Derived.OpenShut
import Derived.Deep.RegionHeld3
import Derived.Deep.DrawnRows
import Derived.Lib.Hide
import Derived.IntWalk
import Derived.Outline
import Derived.Test.YtpobcpnikbiiiaaF64X
namespace Go.Proofs.Ytpobcpnikbiiiaa
open Go.RowKit Go.Fl
set_option linter.unusedVariables false
set_option linter.unusedSimpArgs false
attribute [local go_sem ↓] Go.wp_at_zero Go.wp_at_succ

theorem isNaN' (x : Nat) (w : World) : Calls Try.prog 12 #[.float .f64 x] w fun e w' => e = .returned (.bool (nan x)) ∧ w = w' := by
  cases h : nan x
  all_goals
    go_enter Try.func12, Try.ntmps12
    go_wp2
    go_ret
    exact ⟨rfl, rfl⟩

theorem negZero (x : Nat) (w : World) : Calls Try.prog 14 #[.float .f64 x] w fun e w' => e = .returned (.bool (negZ x)) ∧ ∃ n, w' = w.drewN n := by
  cases h : nan x
  · by_cases h0 : key x = 0
    · have hi := fun w => inv_zero w h0
      cases hn : neg x
      all_goals
        rw [hn] at hi
        simp only [if_true, if_false, Bool.false_eq_true] at hi
        have HZ : negZ x = neg x := by simp [negZ, h, h0]
        rw [HZ, hn]
        clear HZ
        go_enter Try.func14, Try.ntmps14
        go_wp2
        go_ret
        exact ⟨rfl, _, rfl⟩
    · have HZ : negZ x = false := by simp [negZ, h, h0]
      rw [HZ]
      clear HZ
      go_enter Try.func14, Try.ntmps14
      go_wp2
      go_ret
      exact ⟨rfl, 0, rfl⟩
  · have HZ : negZ x = false := by simp [negZ, h]
    rw [HZ]
    clear HZ
    go_enter Try.func14, Try.ntmps14
    go_wp2
    go_ret
    exact ⟨rfl, 0, rfl⟩

theorem posZero (x : Nat) (w : World) : Calls Try.prog 15 #[.float .f64 x] w fun e w' => e = .returned (.bool (posZ x)) ∧ ∃ n, w' = w.drewN n := by
  cases h : nan x
  · by_cases h0 : key x = 0
    · have hi := fun w => inv_zero w h0
      cases hn : neg x
      all_goals
        rw [hn] at hi
        simp only [if_true, if_false, Bool.false_eq_true] at hi
        have HZ : posZ x = !neg x := by simp [posZ, h, h0]
        rw [HZ, hn]
        clear HZ
        go_enter Try.func15, Try.ntmps15
        go_wp2
        go_ret
        exact ⟨rfl, _, rfl⟩
    · have HZ : posZ x = false := by simp [posZ, h, h0]
      rw [HZ]
      clear HZ
      go_enter Try.func15, Try.ntmps15
      go_wp2
      go_ret
      exact ⟨rfl, 0, rfl⟩
  · have HZ : posZ x = false := by simp [posZ, h]
    rw [HZ]
    clear HZ
    go_enter Try.func15, Try.ntmps15
    go_wp2
    go_ret
    exact ⟨rfl, 0, rfl⟩

theorem posInf (w : World) : Calls Try.prog 13 #[] w fun e w' => e = .returned (.float .f64 pinf) ∧ Below w.heap.size w w' := by
  have hi : ∀ w, fop .quo w 4607182418800017408 0 = pinf := fun w => inv_zero w (by decide)
  go_enter Try.func13, Try.ntmps13
  go_wp2
  go_ret
  refine ⟨rfl, ?_⟩
  repeat' (first | exact Below.refl _ _ | refine Below.alloc ?_ ?_ _ | refine Below.setCell ?_ ?_ _ | refine below_drewN ?_ _ | refine Below.drew ?_ | (simp <;> omega) | omega)

theorem negZ_of (x y : Nat) (h : key x = 0) (hn : nan x = false) (w : World) : negZ x = (neg x) := by simp [negZ, h, hn]
theorem sameF (x y : Nat) (hx : x < 2 ^ 64) (hy : y < 2 ^ 64) (w : World) : Calls Try.prog 8 #[.float .f64 x, .float .f64 y] w fun e w' => e = .returned (.bool (sameB x y)) ∧ Below w.heap.size w w' := by
  rcases same_cases hx hy with ⟨h1, h2, h3⟩ | ⟨h1, h2, h3⟩ | ⟨h1, h2, h3⟩ | ⟨h1, h2, h4, h5, h3⟩ | ⟨h1, h2, h4, h5, h3⟩ | ⟨h1, h2, h4, h5, rfl⟩ | ⟨h1, h2, h4, h5, rfl⟩ | ⟨h1, h2, h4, h5, h6, h7, h3⟩ | ⟨h1, h2, h4, h5, h6, h7, h3⟩ | ⟨h1, h2, h4, h5, h6, h7, h3⟩ | ⟨h1, h2, h4, h5, h6, h7, h3⟩
  all_goals
    first | rw [h3] | rw [sameB_self]
    try have z1 : negZ x = negZ y := by simp [negZ, h1, h4, h5, h2]; first | done | (have e6 := h6 default; have e7 := h7 default; rw [inv_zero _ h4] at e6; rw [inv_zero _ h5] at e7; revert e6 e7; cases neg x <;> cases neg y <;> simp [pinf, ninf])
    try have z2 : negZ x = !negZ y := by simp [negZ, h1, h4, h5, h2]; first | done | (have e6 := h6 default; have e7 := h7 default; rw [inv_zero _ h4] at e6; rw [inv_zero _ h5] at e7; revert e6 e7; cases neg x <;> cases neg y <;> simp [pinf, ninf])
    clear hx
    try clear hy
    try clear h6 h7
    go_enter Try.func8, Try.ntmps8
    go_wp2_with (first | (go_at_call 12; refine (isNaN' _ _).mono ?_; rintro e w' ⟨rfl, rfl⟩) | (go_at_call 14; refine (negZero _ _).mono ?_; rintro e w' ⟨rfl, n, rfl⟩))
    all_goals go_ret
    all_goals refine ⟨ret_bool (by simp [*] <;> omega), ?_⟩
    all_goals repeat' (first | exact Below.refl _ _ | refine Below.alloc ?_ ?_ _ | refine Below.setCell ?_ ?_ _ | refine below_drewN ?_ _ | refine Below.drew ?_ | (simp <;> omega) | omega)

theorem sameF_true (x y : Nat) (hx : x < 2 ^ 64) (hy : y < 2 ^ 64) (h : sameB x y = true) (w : World) : Calls Try.prog 8 #[.float .f64 x, .float .f64 y] w fun e w' => e = .returned (.bool true) ∧ Below w.heap.size w w' :=
  (sameF x y hx hy w).mono fun e w' k => by rw [← h]; exact k

theorem archMax_run (x y : Nat) (w : World) : (callFunc 24 #[.float .f64 x, .float .f64 y]).run Try.prog w = .ok (.value (.float .f64 (maxW x y))) w := by
  rw [run_callFunc_extern (fn := Try.f24) (e := Extern.MathDim.pick "math.archMax" false .gt) Try.func24 (by kernel_rfl) (by kernel_rfl) (by kernel_rfl) (by kernel_rfl), run_pick_max]
  rfl
theorem mathMax (x y : Nat) (w : World) : Calls Try.prog 22 #[.float .f64 x, .float .f64 y] w fun e w' => e = .returned (.float .f64 (maxW x y)) ∧ w = w' := by
  have hr := archMax_run x y
  go_enter Try.func22, Try.ntmps22
  go_wp2
  go_ret
  exact ⟨rfl, rfl⟩

theorem hMax2 (x y : Nat) (w : World) : Calls Try.prog 16 #[.agg #[.float .f64 x], .agg #[.float .f64 y]] w (GivesJust (maxW x y) w) := by
  go_enter Try.func16, Try.ntmps16
  go_wp2_with (first | (go_at_call 17; refine (newF64 _ _).mono ?_; rintro e w' ⟨rfl, rfl⟩) | (go_at_call 22; refine (mathMax _ _ _).mono ?_; rintro e w' ⟨rfl, rfl⟩))
  refine bodyPost_ret (v := .agg #[.float .f64 _]) (by simp [results, Try.results16, go_sem]) rfl ⟨rfl, ?_⟩
  repeat' (first | exact Below.refl _ _ | refine Below.alloc ?_ ?_ _ | refine Below.setCell ?_ ?_ _ | refine below_drewN ?_ _ | refine Below.drew ?_ | (simp <;> omega) | omega)

theorem hMax3 (x y z : Nat) (w : World) : Calls Try.prog 20 #[.agg #[.float .f64 x], .agg #[.float .f64 y], .agg #[.float .f64 z]] w (GivesJust (maxW (maxW x y) z) w) := by
  have h3 : ((((w.alloc (.cells #[.float .f64 x] 30)).alloc (.cells #[.float .f64 y] 30)).alloc (.cells #[.float .f64 z] 30)).alloc (.cells #[.float .f64 0] 30)).cell? ⟨w.heap.size + 1 + 1, 0, none⟩ = some (.float .f64 z) := by
    rw [cell_lt _ _ _ (by simp)]; exact cell_at _ _ _ _ (by simp)
  go_enter Try.func20, Try.ntmps20
  go_wp2
  go_region_held3 (fun w' => w'.cell? ⟨w.heap.size, 0, none⟩ = some (.float .f64 x) ∧ w'.cell? ⟨w.heap.size + 1, 0, none⟩ = some (.float .f64 y) ∧ w'.cell? ⟨w.heap.size + 1 + 1, 0, none⟩ = some (.float .f64 z)) (first | (refine ⟨?_, ?_, ?_⟩; all_goals first | exact h3 | (simp [go_sem]; done)) | go_keep | (go_split_ands; exact ⟨(cell_lt _ _ ⟨w.heap.size, 0, none⟩ (by simp <;> omega)).trans (by assumption), (cell_lt _ _ ⟨w.heap.size + 1, 0, none⟩ (by simp <;> omega)).trans (by assumption), (cell_lt _ _ ⟨w.heap.size + 1 + 1, 0, none⟩ (by simp <;> omega)).trans (by assumption)⟩)) (first | (go_at_call 17; refine (newF64 _ _).mono ?_; rintro e w' ⟨rfl, rfl⟩) | (go_at_call 22; refine (mathMax _ _ _).mono ?_; rintro e w' ⟨rfl, rfl⟩))
  go_wp2
  refine bodyPost_ret (v := .agg #[.float .f64 _]) (by simp [results, Try.results20, go_sem]) rfl ⟨rfl, ?_⟩
  repeat' (first | exact Below.refl _ _ | refine Below.alloc ?_ ?_ _ | refine Below.setCell ?_ ?_ _ | refine below_drewN ?_ _ | refine Below.drew ?_ | (simp <;> omega) | omega)

theorem max2 (x y : Nat) (w : World) : Calls Try.prog 7 #[.float .f64 x, .float .f64 y] w fun e w' => e = .returned (.float .f64 (maxW x y)) ∧ Below w.heap.size w w' := by
  go_enter Try.func7, Try.ntmps7
  go_wp2_with (first | (go_at_call 17; refine (newF64 _ _).mono ?_; rintro e w' ⟨rfl, rfl⟩) | (go_at_call 18; refine (value _ _).mono ?_; rintro e w' ⟨rfl, rfl⟩) | (go_at_call 16; refine (hMax2 _ _ _).mono ?_; rintro e w' ⟨rfl, hb⟩))
  go_ret
  refine ⟨rfl, ?_⟩
  have hz := hb.size
  simp at hz
  repeat' (first | exact Below.refl _ _ | refine Below.alloc ?_ ?_ _ | refine Below.setCell ?_ ?_ _ | refine below_drewN ?_ _ | refine Below.drew ?_ | refine Below.trans ?_ (hb.mono ?_) | (simp <;> omega) | omega)

theorem max3 (x y z : Nat) (w : World) : Calls Try.prog 10 #[.float .f64 x, .float .f64 y, .float .f64 z] w fun e w' => e = .returned (.float .f64 (maxW (maxW x y) z)) ∧ Below w.heap.size w w' := by
  go_enter Try.func10, Try.ntmps10
  go_wp2_with (first | (go_at_call 17; refine (newF64 _ _).mono ?_; rintro e w' ⟨rfl, rfl⟩) | (go_at_call 18; refine (value _ _).mono ?_; rintro e w' ⟨rfl, rfl⟩) | (go_at_call 20; refine (hMax3 _ _ _ _).mono ?_; rintro e w' ⟨rfl, hb⟩))
  go_ret
  refine ⟨rfl, ?_⟩
  have hz := hb.size
  simp at hz
  repeat' (first | exact Below.refl _ _ | refine Below.alloc ?_ ?_ _ | refine Below.setCell ?_ ?_ _ | refine below_drewN ?_ _ | refine Below.drew ?_ | refine Below.trans ?_ (hb.mono ?_) | (simp <;> omega) | omega)

theorem archMin_run (x y : Nat) (w : World) : (callFunc 26 #[.float .f64 x, .float .f64 y]).run Try.prog w = .ok (.value (.float .f64 (minW x y))) w := by
  rw [run_callFunc_extern (fn := Try.f26) (e := Extern.MathDim.pick "math.archMin" true .lt) Try.func26 (by kernel_rfl) (by kernel_rfl) (by kernel_rfl) (by kernel_rfl), run_pick_min]
  rfl
theorem mathMin (x y : Nat) (w : World) : Calls Try.prog 23 #[.float .f64 x, .float .f64 y] w fun e w' => e = .returned (.float .f64 (minW x y)) ∧ w = w' := by
  have hr := archMin_run x y
  go_enter Try.func23, Try.ntmps23
  go_wp2
  go_ret
  exact ⟨rfl, rfl⟩

theorem hMin2 (x y : Nat) (w : World) : Calls Try.prog 19 #[.agg #[.float .f64 x], .agg #[.float .f64 y]] w (GivesJust (minW x y) w) := by
  go_enter Try.func19, Try.ntmps19
  go_wp2_with (first | (go_at_call 17; refine (newF64 _ _).mono ?_; rintro e w' ⟨rfl, rfl⟩) | (go_at_call 23; refine (mathMin _ _ _).mono ?_; rintro e w' ⟨rfl, rfl⟩))
  refine bodyPost_ret (v := .agg #[.float .f64 _]) (by simp [results, Try.results19, go_sem]) rfl ⟨rfl, ?_⟩
  repeat' (first | exact Below.refl _ _ | refine Below.alloc ?_ ?_ _ | refine Below.setCell ?_ ?_ _ | refine below_drewN ?_ _ | refine Below.drew ?_ | (simp <;> omega) | omega)

theorem hMin3 (x y z : Nat) (w : World) : Calls Try.prog 21 #[.agg #[.float .f64 x], .agg #[.float .f64 y], .agg #[.float .f64 z]] w (GivesJust (minW (minW x y) z) w) := by
  have h3 : ((((w.alloc (.cells #[.float .f64 x] 30)).alloc (.cells #[.float .f64 y] 30)).alloc (.cells #[.float .f64 z] 30)).alloc (.cells #[.float .f64 0] 30)).cell? ⟨w.heap.size + 1 + 1, 0, none⟩ = some (.float .f64 z) := by
    rw [cell_lt _ _ _ (by simp)]; exact cell_at _ _ _ _ (by simp)
  go_enter Try.func21, Try.ntmps21
  go_wp2
  go_region_held3 (fun w' => w'.cell? ⟨w.heap.size, 0, none⟩ = some (.float .f64 x) ∧ w'.cell? ⟨w.heap.size + 1, 0, none⟩ = some (.float .f64 y) ∧ w'.cell? ⟨w.heap.size + 1 + 1, 0, none⟩ = some (.float .f64 z)) (first | (refine ⟨?_, ?_, ?_⟩; all_goals first | exact h3 | (simp [go_sem]; done)) | go_keep | (go_split_ands; exact ⟨(cell_lt _ _ ⟨w.heap.size, 0, none⟩ (by simp <;> omega)).trans (by assumption), (cell_lt _ _ ⟨w.heap.size + 1, 0, none⟩ (by simp <;> omega)).trans (by assumption), (cell_lt _ _ ⟨w.heap.size + 1 + 1, 0, none⟩ (by simp <;> omega)).trans (by assumption)⟩)) (first | (go_at_call 17; refine (newF64 _ _).mono ?_; rintro e w' ⟨rfl, rfl⟩) | (go_at_call 23; refine (mathMin _ _ _).mono ?_; rintro e w' ⟨rfl, rfl⟩))
  go_wp2
  refine bodyPost_ret (v := .agg #[.float .f64 _]) (by simp [results, Try.results21, go_sem]) rfl ⟨rfl, ?_⟩
  repeat' (first | exact Below.refl _ _ | refine Below.alloc ?_ ?_ _ | refine Below.setCell ?_ ?_ _ | refine below_drewN ?_ _ | refine Below.drew ?_ | (simp <;> omega) | omega)

theorem min2 (x y : Nat) (w : World) : Calls Try.prog 9 #[.float .f64 x, .float .f64 y] w fun e w' => e = .returned (.float .f64 (minW x y)) ∧ Below w.heap.size w w' := by
  go_enter Try.func9, Try.ntmps9
  go_wp2_with (first | (go_at_call 17; refine (newF64 _ _).mono ?_; rintro e w' ⟨rfl, rfl⟩) | (go_at_call 18; refine (value _ _).mono ?_; rintro e w' ⟨rfl, rfl⟩) | (go_at_call 19; refine (hMin2 _ _ _).mono ?_; rintro e w' ⟨rfl, hb⟩))
  go_ret
  refine ⟨rfl, ?_⟩
  have hz := hb.size
  simp at hz
  repeat' (first | exact Below.refl _ _ | refine Below.alloc ?_ ?_ _ | refine Below.setCell ?_ ?_ _ | refine below_drewN ?_ _ | refine Below.drew ?_ | refine Below.trans ?_ (hb.mono ?_) | (simp <;> omega) | omega)

theorem min3 (x y z : Nat) (w : World) : Calls Try.prog 11 #[.float .f64 x, .float .f64 y, .float .f64 z] w fun e w' => e = .returned (.float .f64 (minW (minW x y) z)) ∧ Below w.heap.size w w' := by
  go_enter Try.func11, Try.ntmps11
  go_wp2_with (first | (go_at_call 17; refine (newF64 _ _).mono ?_; rintro e w' ⟨rfl, rfl⟩) | (go_at_call 18; refine (value _ _).mono ?_; rintro e w' ⟨rfl, rfl⟩) | (go_at_call 21; refine (hMin3 _ _ _ _).mono ?_; rintro e w' ⟨rfl, hb⟩))
  go_ret
  refine ⟨rfl, ?_⟩
  have hz := hb.size
  simp at hz
  repeat' (first | exact Below.refl _ _ | refine Below.alloc ?_ ?_ _ | refine Below.setCell ?_ ?_ _ | refine below_drewN ?_ _ | refine Below.drew ?_ | refine Below.trans ?_ (hb.mono ?_) | (simp <;> omega) | omega)

end Go.Proofs.Ytpobcpnikbiiiaa
