/- Contracts of n011_57: ceiling, floor, the models. -/
import Derived.Test.YthockcodajmkmaaF64M
import Derived.OpenShut
import Derived.Deep.RegionHeld3
import Derived.Deep.DrawnRows
import Derived.Lib.Hide
import Derived.IntWalk
import Derived.Outline
import Derived.Test.YthockcodajmkmaaF64R
namespace Go.Proofs.Ythockcodajmkmaa
open Go.RowKit Go.Fl
set_option linter.unusedVariables false
set_option linter.unusedSimpArgs false
attribute [local go_sem ↓] Go.wp_at_zero Go.wp_at_succ

theorem sameF (x y : Nat) (hx : x < 2 ^ 64) (hy : y < 2 ^ 64) (w : World) : Calls Try.prog 10 #[.float .f64 x, .float .f64 y] w fun e w' => e = .returned (.bool (sameB x y)) ∧ Below w.heap.size w w' := by
  rcases same_cases hx hy with ⟨h1, h2, h3⟩ | ⟨h1, h2, h3⟩ | ⟨h1, h2, h3⟩ | ⟨h1, h2, h4, h5, h3⟩ | ⟨h1, h2, h4, h5, h3⟩ | ⟨h1, h2, h4, h5, rfl⟩ | ⟨h1, h2, h4, h5, rfl⟩ | ⟨h1, h2, h4, h5, h6, h7, h3⟩ | ⟨h1, h2, h4, h5, h6, h7, h3⟩ | ⟨h1, h2, h4, h5, h6, h7, h3⟩ | ⟨h1, h2, h4, h5, h6, h7, h3⟩
  all_goals
    first | rw [h3] | rw [sameB_self]
    clear hx
    try clear hy
    go_enter Try.func10, Try.ntmps10
    go_wp2
    all_goals go_ret
    all_goals refine ⟨ret_bool (by simp <;> omega), ?_⟩
    all_goals repeat' (first | exact Below.refl _ _ | refine Below.alloc ?_ ?_ _ | refine Below.setCell ?_ ?_ _ | refine below_drewN ?_ _ | refine Below.drew ?_ | (simp <;> omega) | omega)

theorem sameF_true (x y : Nat) (hx : x < 2 ^ 64) (hy : y < 2 ^ 64) (h : sameB x y = true) (w : World) : Calls Try.prog 10 #[.float .f64 x, .float .f64 y] w fun e w' => e = .returned (.bool true) ∧ Below w.heap.size w w' :=
  (sameF x y hx hy w).mono fun e w' k => by rw [← h]; exact k

theorem archCeil_run {x : Nat} (hx : x < 2 ^ 64) (w : World) : ∃ r n, (callFunc 21 #[.float .f64 x]).run Try.prog w = .ok (.value (.float .f64 r)) (w.drewN n) ∧ IntR .up x r := by
  obtain ⟨r, n, h, hR⟩ := run_integral (P := Try.prog) "math.archCeil" .up hx w
  refine ⟨r, n, ?_, hR⟩
  rw [run_callFunc_extern (fn := Try.f21) (e := Extern.MathFloor.toIntegral "math.archCeil" .up) Try.func21 (by kernel_rfl) (by kernel_rfl) (by kernel_rfl) (by kernel_rfl), h]
  rfl
def CeilGives (x : Nat) (w : World) (e : Ending) (w' : World) : Prop := ∃ r, IntR .up x r ∧ e = .returned (.float .f64 r) ∧ ∃ n, w' = w.drewN n
theorem mathCeil (x : Nat) (hx : x < 2 ^ 64) (w : World) : Calls Try.prog 17 #[.float .f64 x] w (CeilGives x w) := by
  obtain ⟨r, n, hr, hR⟩ := archCeil_run hx w
  go_enter Try.func17, Try.ntmps17
  go_wp2
  go_ret
  exact ⟨r, hR, rfl, n, rfl⟩

def CeilAgg (x : Nat) (w : World) (e : Ending) (w' : World) : Prop := ∃ r, IntR .up x r ∧ e = .returned (.agg #[.float .f64 r]) ∧ Below w.heap.size w w'
theorem hCeil (x : Nat) (hx : x < 2 ^ 64) (w : World) : Calls Try.prog 8 #[.agg #[.float .f64 x]] w (CeilAgg x w) := by
  go_enter Try.func8, Try.ntmps8
  go_wp2_with (first | (go_at_call 7; refine (newF64 _ _).mono ?_; rintro e w' ⟨rfl, rfl⟩) | (go_at_call 17; refine (mathCeil _ hx _).mono ?_; rintro e w' ⟨r, hr, rfl, n, rfl⟩))
  refine bodyPost_ret (v := .agg #[.float .f64 r]) (by simp [results, Try.results8, go_sem]) rfl ⟨r, hr, rfl, ?_⟩
  repeat' (first | exact Below.refl _ _ | refine Below.alloc ?_ ?_ _ | refine Below.setCell ?_ ?_ _ | refine below_drewN ?_ _ | refine Below.drew ?_ | (simp <;> omega) | omega)

theorem archFloor_run {x : Nat} (hx : x < 2 ^ 64) (w : World) : ∃ r n, (callFunc 27 #[.float .f64 x]).run Try.prog w = .ok (.value (.float .f64 r)) (w.drewN n) ∧ IntR .down x r := by
  obtain ⟨r, n, h, hR⟩ := run_integral (P := Try.prog) "math.archFloor" .down hx w
  refine ⟨r, n, ?_, hR⟩
  rw [run_callFunc_extern (fn := Try.f27) (e := Extern.MathFloor.toIntegral "math.archFloor" .down) Try.func27 (by kernel_rfl) (by kernel_rfl) (by kernel_rfl) (by kernel_rfl), h]
  rfl
def FloorGives (x : Nat) (w : World) (e : Ending) (w' : World) : Prop := ∃ r, IntR .down x r ∧ e = .returned (.float .f64 r) ∧ ∃ n, w' = w.drewN n
theorem mathFloor (x : Nat) (hx : x < 2 ^ 64) (w : World) : Calls Try.prog 20 #[.float .f64 x] w (FloorGives x w) := by
  obtain ⟨r, n, hr, hR⟩ := archFloor_run hx w
  go_enter Try.func20, Try.ntmps20
  go_wp2
  go_ret
  exact ⟨r, hR, rfl, n, rfl⟩

def FloorAgg (x : Nat) (w : World) (e : Ending) (w' : World) : Prop := ∃ r, IntR .down x r ∧ e = .returned (.agg #[.float .f64 r]) ∧ Below w.heap.size w w'
theorem hFloor (x : Nat) (hx : x < 2 ^ 64) (w : World) : Calls Try.prog 16 #[.agg #[.float .f64 x]] w (FloorAgg x w) := by
  go_enter Try.func16, Try.ntmps16
  go_wp2_with (first | (go_at_call 7; refine (newF64 _ _).mono ?_; rintro e w' ⟨rfl, rfl⟩) | (go_at_call 20; refine (mathFloor _ hx _).mono ?_; rintro e w' ⟨r, hr, rfl, n, rfl⟩))
  refine bodyPost_ret (v := .agg #[.float .f64 r]) (by simp [results, Try.results16, go_sem]) rfl ⟨r, hr, rfl, ?_⟩
  repeat' (first | exact Below.refl _ _ | refine Below.alloc ?_ ?_ _ | refine Below.setCell ?_ ?_ _ | refine below_drewN ?_ _ | refine Below.drew ?_ | (simp <;> omega) | omega)

theorem conv_small {x : Nat} (h : rung x < 4841369599423283200) (w : World) : (convert 22 2 (.float .f64 x)).run Try.prog w = .ok (.int .i64 (ti x)) w :=
  run_convert_float_int w _ _ .f64 .i64 x (ti x) (by rw [Try.underlying22]; rfl) Try.underlying2 (f2i_small h)
theorem n52 : nan 4841369599423283200 = false := by decide
theorem k52 : key 4841369599423283200 = 4841369599423283200 := by decide
theorem m52 : nan 14064741636278059008 = false := by decide
theorem l52 : key 14064741636278059008 = -4841369599423283200 := by decide
theorem modelCeil_same (x : Nat) (h : nan x = true ∨ (nan x = false ∧ 4841369599423283200 ≤ key x) ∨ (nan x = false ∧ key x ≤ -4841369599423283200)) (w : World) : Calls Try.prog 11 #[.float .f64 x] w fun e w' => e = .returned (.float .f64 x) ∧ ∃ n, w' = w.drewN n := by
  have a1 := n52; have a2 := k52; have a3 := m52; have a4 := l52
  rcases h with h | ⟨h, h2⟩ | ⟨h, h2⟩
  all_goals
    go_enter Try.func11, Try.ntmps11
    go_wp2
    all_goals go_ret
    all_goals exact ⟨rfl, 0, rfl⟩

theorem modelCeil_small (x : Nat) (hn : nan x = false) (h1 : key x < 4841369599423283200) (h2 : -4841369599423283200 < key x) (w : World) : Calls Try.prog 11 #[.float .f64 x] w fun e w' => e = .returned (.float .f64 (ceilW x)) ∧ ∃ n, w' = w.drewN n := by
  have a1 := n52; have a2 := k52; have a3 := m52; have a4 := l52
  have hr := (small_iff x hn).2 ⟨h1, h2⟩
  have hf : rung x < infR := Nat.lt_trans hr (by decide)
  have hc := conv_small hr
  have ht := tr_small hr
  have hta : (ti x).natAbs ≤ 2 ^ 52 := by rw [ti_abs]; omega
  have hlt := foi_lt hr
  have hz := @foi_zero (ti x) (by omega)
  have hnt := foi_not_nan (ti x)
  have hm := mul_zero_small hf
  have ha := add_one hta
  have hs : ¬ 4841369599423283200 ≤ key x := by omega
  by_cases c : neg x = false ∧ rs x ≠ 0
  · obtain ⟨e1, e2⟩ := ceil_up c.1 c.2
    have hz1 := @foi_zero (ti x + 1) (by omega)
    have hk : key (floatOfInt .f64 (ti x)) < key x := hlt.2 c
    have hnz : ¬ key (ceilW x) = 0 := by rw [← e1]; exact fun h => e2 (hz1.1 h)
    have hn1 : nan (ceilW x) = false := iw_not_nan _ _
    rw [e1] at ha
    clear hr hf ht hta hlt hz c e1 e2 hz1
    go_enter Try.func11, Try.ntmps11
    go_wp2
    go_ret
    exact ⟨rfl, _, rfl⟩
  · obtain ⟨e1, e2⟩ := ceil_stay c
    have hk : ¬ key (floatOfInt .f64 (ti x)) < key x := fun h => c (hlt.1 h)
    by_cases c0 : ti x = 0
    · have e := e1 c0
      have hz0 := hz.2 c0
      rw [e]
      clear hr hf ht hta hlt hz c e1 e2 ha e c0
      go_enter Try.func11, Try.ntmps11
      go_wp2
      go_ret
      exact ⟨rfl, _, rfl⟩
    · have e := e2 c0
      have hz0 : ¬ key (floatOfInt .f64 (ti x)) = 0 := fun h => c0 (hz.1 h)
      rw [e] at hk hz0 hnt
      clear hr hf ht hta hlt hz c e1 e2 ha c0
      go_enter Try.func11, Try.ntmps11
      go_wp2
      go_ret
      exact ⟨rfl, 0, rfl⟩

theorem bits_run (x : Nat) (w : World) : (callFunc 23 #[.float .f64 x]).run Try.prog w = .ok (.value (.int .u64 x)) w := by
  rw [run_callFunc_extern (fn := Try.f23) (e := Extern.MathFloatBits.float64bits) Try.func23 (by kernel_rfl) (by kernel_rfl) (by kernel_rfl) (by kernel_rfl)]
  rfl
theorem frombits_run (n : Int) (w : World) : (callFunc 24 #[.int .u64 n]).run Try.prog w = .ok (.value (.float .f64 n.toNat)) w := by
  rw [run_callFunc_extern (fn := Try.f24) (e := Extern.MathFloatBits.float64frombits) Try.func24 (by kernel_rfl) (by kernel_rfl) (by kernel_rfl) (by kernel_rfl)]
  rfl
def rndW (x : Nat) : Nat := if ex x < 1075 then roundW x else x
set_option maxRecDepth 100000 in
theorem mathRound (x : Nat) (hx : x < 2 ^ 64) (w : World) : Calls Try.prog 18 #[.float .f64 x] w fun e w' => e = .returned (.float .f64 (rndW x)) ∧ w = w' := by
  have hb := bits_run
  have hf := frombits_run
  have he := ex_bits hx
  have hs := sign_bits hx
  have ho := one_bits (neg x)
  rcases (show ex x < 1022 ∨ ex x = 1022 ∨ (1023 ≤ ex x ∧ ex x < 1075) ∨ 1075 ≤ ex x by omega) with h | h | ⟨h1, h2⟩ | h
  · have HV : rndW x = wd (neg x) 0 := by unfold rndW; rw [if_pos (by omega)]; exact round_tiny h
    rw [HV]
    clear HV ho hx
    go_enter Try.func18, Try.ntmps18
    go_wp2
    go_ret
    exact ⟨rfl, rfl⟩
  · have HV : rndW x = wd (neg x) 4607182418800017408 := by unfold rndW; rw [if_pos (by omega)]; exact round_half h
    rw [HV]
    clear HV hx
    go_enter Try.func18, Try.ntmps18
    go_wp2
    go_ret
    exact ⟨rfl, rfl⟩
  · have HV : rndW x = roundW x := by unfold rndW; rw [if_pos (by omega)]
    have hm := Lib.hid (mid_bits hx h1 h2)
    rw [HV]
    clear HV hs ho
    go_enter Try.func18, Try.ntmps18
    go_wp2
    go_ret
    exact ⟨congrArg (fun n => Ending.returned (Value.float .f64 n)) hm.out, rfl⟩
  · have HV : rndW x = x := by unfold rndW; rw [if_neg (by omega)]
    rw [HV]
    clear HV hs ho
    go_enter Try.func18, Try.ntmps18
    go_wp2
    go_ret
    exact ⟨rfl, rfl⟩

theorem hRound (x : Nat) (hx : x < 2 ^ 64) (w : World) : Calls Try.prog 12 #[.agg #[.float .f64 x]] w (GivesJust (rndW x) w) := by
  go_enter Try.func12, Try.ntmps12
  go_wp2_with (first | (go_at_call 7; refine (newF64 _ _).mono ?_; rintro e w' ⟨rfl, rfl⟩) | (go_at_call 18; refine (mathRound _ hx _).mono ?_; rintro e w' ⟨rfl, rfl⟩))
  refine bodyPost_ret (v := .agg #[.float .f64 _]) (by simp [results, Try.results12, go_sem]) rfl ⟨rfl, ?_⟩
  repeat' (first | exact Below.refl _ _ | refine Below.alloc ?_ ?_ _ | refine Below.setCell ?_ ?_ _ | refine below_drewN ?_ _ | refine Below.drew ?_ | (simp <;> omega) | omega)

theorem modelRound_same (x : Nat) (h : nan x = true ∨ (nan x = false ∧ 4841369599423283200 ≤ key x) ∨ (nan x = false ∧ key x ≤ -4841369599423283200)) (w : World) : Calls Try.prog 13 #[.float .f64 x] w fun e w' => e = .returned (.float .f64 x) ∧ ∃ n, w' = w.drewN n := by
  have a1 := n52; have a2 := k52; have a3 := m52; have a4 := l52
  rcases h with h | ⟨h, h2⟩ | ⟨h, h2⟩
  all_goals
    go_enter Try.func13, Try.ntmps13
    go_wp2
    all_goals go_ret
    all_goals exact ⟨rfl, 0, rfl⟩
theorem h05 : nan 4602678819172646912 = false := by decide
theorem k05 : key 4602678819172646912 = 4602678819172646912 := by decide
theorem h06 : nan 13826050856027422720 = false := by decide
theorem k06 : key 13826050856027422720 = -4602678819172646912 := by decide
set_option maxHeartbeats 400000 in
theorem modelRound_small (x : Nat) (hx : x < 2 ^ 64) (hn : nan x = false) (h1 : key x < 4841369599423283200) (h2 : -4841369599423283200 < key x) (w : World) : Calls Try.prog 13 #[.float .f64 x] w fun e w' => e = .returned (.float .f64 (roundW x)) ∧ ∃ n, w' = w.drewN n := by
  have a1 := n52; have a2 := k52; have a3 := m52; have a4 := l52
  have b1 := h05; have b2 := k05; have b3 := h06; have b4 := k06
  have hr := (small_iff x hn).2 ⟨h1, h2⟩
  have hf : rung x < infR := Nat.lt_trans hr (by decide)
  have hc := conv_small hr
  have ht := tr_small hr
  have hta : (ti x).natAbs ≤ 2 ^ 52 := by rw [ti_abs]; omega
  have hz := @foi_zero (ti x) (by omega)
  have hnt := foi_not_nan (ti x)
  have hm := mul_zero_small hf
  have ha := add_one hta
  have hb := sub_one hta
  obtain ⟨d, hd, nd, vd⟩ := frac_sub hx hr
  obtain ⟨q1, q2⟩ := frac_half vd
  rw [k05] at q1
  rw [k06] at q2
  have hs : ¬ 4841369599423283200 ≤ key x := by omega
  by_cases c : U ≤ 2 * rs x
  · obtain ⟨e1, e2⟩ := round_up c
    cases sg : neg x
    · obtain ⟨e3, e4⟩ := e1 sg
      have hz1 := @foi_zero (ti x + 1) (by omega)
      have hk : 4602678819172646912 ≤ key d := q1.2 ⟨sg, c⟩
      have hnz : ¬ key (roundW x) = 0 := by rw [← e3]; exact fun h => e4 (hz1.1 h)
      have hn1 : nan (roundW x) = false := iw_not_nan _ _
      rw [e3] at ha
      clear hr hf ht hta hz c e1 e2 e3 e4 hz1 q1 q2 vd hb hx sg
      generalize roundW x = R at *
      go_enter Try.func13, Try.ntmps13
      go_wp2
      all_goals go_ret
      all_goals exact ⟨rfl, _, rfl⟩
    · obtain ⟨e3, e4⟩ := e2 sg
      have hz1 := @foi_zero (ti x - 1) (by omega)
      have hk : key d ≤ -4602678819172646912 := q2.2 ⟨sg, c⟩
      have hk2 : ¬ 4602678819172646912 ≤ key d := by omega
      have hnz : ¬ key (roundW x) = 0 := by rw [← e3]; exact fun h => e4 (hz1.1 h)
      have hn1 : nan (roundW x) = false := iw_not_nan _ _
      rw [e3] at hb
      clear hr hf ht hta hz c e1 e2 e3 e4 hz1 q1 q2 vd ha hx sg
      generalize roundW x = R at *
      go_enter Try.func13, Try.ntmps13
      go_wp2
      all_goals go_ret
      all_goals exact ⟨rfl, _, rfl⟩
  · obtain ⟨e1, e2⟩ := round_stay c
    have hk1 : ¬ 4602678819172646912 ≤ key d := fun h => c (q1.1 h).2
    have hk2 : ¬ key d ≤ -4602678819172646912 := fun h => c (q2.1 h).2
    by_cases c0 : ti x = 0
    · have e := e1 c0
      have hz0 := hz.2 c0
      rw [e]
      clear hr hf ht hta hz c e1 e2 ha hb e c0 q1 q2 vd hx
      go_enter Try.func13, Try.ntmps13
      go_wp2
      all_goals go_ret
      all_goals exact ⟨rfl, _, rfl⟩
    · have e := e2 c0
      have hz0 : ¬ key (floatOfInt .f64 (ti x)) = 0 := fun h => c0 (hz.1 h)
      rw [e] at hz0 hnt hd
      clear hr hf ht hta hz c e1 e2 ha hb c0 q1 q2 vd hx
      generalize roundW x = R at *
      go_enter Try.func13, Try.ntmps13
      go_wp2
      all_goals go_ret
      all_goals exact ⟨rfl, _, rfl⟩

end Go.Proofs.Ythockcodajmkmaa
