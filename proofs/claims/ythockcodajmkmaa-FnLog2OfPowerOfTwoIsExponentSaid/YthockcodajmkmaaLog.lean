/- The walk of the law on Log2 of n011_57: it returns true and writes nothing that was there. -/
import Derived.Test.YthockcodajmkmaaF64M
import Derived.OpenShut
import Derived.Deep.RegionHeld3
import Derived.Deep.DrawnRows
import Derived.Lib.Hide
import Derived.IntWalk
import Derived.Outline
import Derived.Test.YthockcodajmkmaaK
import Derived.Test.YthockcodajmkmaaF64L
namespace Go.Proofs.Ythockcodajmkmaa
open Go.RowKit Go.Fl
set_option linter.unusedVariables false
set_option linter.unusedSimpArgs false
attribute [local go_sem ↓] Go.wp_at_zero Go.wp_at_succ

set_option maxRecDepth 100000 in
theorem absP (p : Nat) (ha : bits .andNot .u64 (p : Int) 9223372036854775808 = (p : Int)) (w : World) : Calls Try.prog 38 #[.float .f64 p] w fun e w' => e = .returned (.float .f64 p) ∧ w = w' := by
  have hb := bits_run
  have hf := frombits_run
  replace ha := Lib.hid ha
  go_enter Try.func38, Try.ntmps38
  go_wp2
  go_ret
  refine ⟨?_, rfl⟩
  simp [ha.out]

theorem smn : nan 4503599627370496 = false := by decide
theorem smk : key 4503599627370496 = 4503599627370496 := by decide
set_option maxRecDepth 100000 in
theorem norm_big (i : Int) (h1 : -1022 ≤ i) (h2 : i ≤ 1023) (w : World) : Calls Try.prog 41 #[.float .f64 (pw i)] w fun e w' => e = .returned (.tuple #[.float .f64 (pw i), .int .i64 0]) ∧ w = w' := by
  have hb := bits_run
  have hf := frombits_run
  have HA := Lib.hid (pw_abs (show -1074 ≤ i by omega) h2)
  obtain ⟨k1, n1⟩ := pw_key (show -1074 ≤ i by omega) h2
  have hs := pw_small (show -1074 ≤ i by omega) h2
  have hs' : ¬ pw i < 4503599627370496 := fun h => by have := hs.1 h; omega
  have s1 := smn
  have s2 := smk
  have hk : 4503599627370496 ≤ key (pw i) := by rw [k1]; omega
  clear hs hs' k1
  generalize pw i = p at *
  go_enter Try.func41, Try.ntmps41
  go_wp2_with (go_at_call 38; refine (absP _ HA.out _).mono ?_; rintro e w' ⟨rfl, rfl⟩)
  go_ret2
  exact ⟨rfl, rfl⟩
set_option maxRecDepth 100000 in
theorem norm_small (i : Int) (h1 : -1074 ≤ i) (h2 : i < -1022) (w : World) : Calls Try.prog 41 #[.float .f64 (pw i)] w fun e w' => e = .returned (.tuple #[.float .f64 (pw (i + 52)), .int .i64 (-52)]) ∧ ∃ n, w' = w.drewN n := by
  have hb := bits_run
  have hf := frombits_run
  have HA := Lib.hid (pw_abs h1 (show i ≤ 1023 by omega))
  obtain ⟨k1, n1⟩ := pw_key h1 (show i ≤ 1023 by omega)
  have hs := (pw_small h1 (show i ≤ 1023 by omega)).2 h2
  have hm := pw_scale h1 h2
  have s1 := smn
  have s2 := smk
  have hk : key (pw i) < 4503599627370496 := by rw [k1]; omega
  clear hs k1
  generalize pw (i + 52) = q at *
  generalize pw i = p at *
  go_enter Try.func41, Try.ntmps41
  go_wp2_with (go_at_call 38; refine (absP _ HA.out _).mono ?_; rintro e w' ⟨rfl, rfl⟩)
  go_ret2
  exact ⟨rfl, _, rfl⟩

set_option maxRecDepth 100000 in
theorem frexp_big (i : Int) (h1 : -1022 ≤ i) (h2 : i ≤ 1023) (w : World) : Calls Try.prog 35 #[.float .f64 (pw i)] w fun e w' => e = .returned (.tuple #[.float .f64 4602678819172646912, .int .i64 (i + 1)]) ∧ ∃ n, w' = w.drewN n := by
  have hj1 := h1; have hj2 := h2
  have hb := bits_run
  have hf := frombits_run
  have HA := Lib.hid (pw_abs (show -1074 ≤ i by omega) (show i ≤ 1023 by omega))
  obtain ⟨k1, n1⟩ := pw_key (show -1074 ≤ i by omega) (show i ≤ 1023 by omega)
  obtain ⟨hl, hp⟩ := pw_lt (show -1074 ≤ i by omega) (show i ≤ 1023 by omega)
  have hk0 : 0 < key (pw i) := by rw [k1]; omega
  have hk1 : key (pw i) ≤ 9218868437227405311 := by rw [k1]; unfold infR at hl; omega
  have m1 : nan 9218868437227405311 = false := by decide
  have m2 : key 9218868437227405311 = 9218868437227405311 := by decide
  have m3 : nan 18442240474082181119 = false := by decide
  have m4 : key 18442240474082181119 = -9218868437227405311 := by decide
  have he := ex_bits (pw_rung (show -1074 ≤ i by omega) hj2).2.2
  rw [pw_ex hj1 hj2] at he
  have hfr := pw_frac hj1 hj2
  have hz : ¬ key (pw i) = 0 := by omega
  clear k1 hl hp
  go_enter Try.func35, Try.ntmps35
  go_wp2_with (first | (go_at_call 41; refine (norm_big _ h1 h2 _).mono ?_; rintro e w' ⟨rfl, rfl⟩) | (go_at_call 38; refine (absP _ HA.out _).mono ?_; rintro e w' ⟨rfl, rfl⟩) | (go_at_call 32; go_in) | (go_at_call 31; go_in))
  go_ret2
  refine ⟨?_, by first | exact ⟨_, rfl⟩ | exact ⟨0, rfl⟩⟩
  simp
  try omega

set_option maxRecDepth 100000 in
theorem frexp_small (i : Int) (h1 : -1074 ≤ i) (h2 : i < -1022) (w : World) : Calls Try.prog 35 #[.float .f64 (pw i)] w fun e w' => e = .returned (.tuple #[.float .f64 4602678819172646912, .int .i64 (i + 1)]) ∧ ∃ n, w' = w.drewN n := by
  have hj1 : -1022 ≤ i + 52 := (by omega)
  have hj2 : i + 52 ≤ 1023 := (by omega)
  have hb := bits_run
  have hf := frombits_run
  have HA := Lib.hid (pw_abs (show -1074 ≤ i by omega) (show i ≤ 1023 by omega))
  obtain ⟨k1, n1⟩ := pw_key (show -1074 ≤ i by omega) (show i ≤ 1023 by omega)
  obtain ⟨hl, hp⟩ := pw_lt (show -1074 ≤ i by omega) (show i ≤ 1023 by omega)
  have hk0 : 0 < key (pw i) := by rw [k1]; omega
  have hk1 : key (pw i) ≤ 9218868437227405311 := by rw [k1]; unfold infR at hl; omega
  have m1 : nan 9218868437227405311 = false := by decide
  have m2 : key 9218868437227405311 = 9218868437227405311 := by decide
  have m3 : nan 18442240474082181119 = false := by decide
  have m4 : key 18442240474082181119 = -9218868437227405311 := by decide
  have he := ex_bits (pw_rung (show -1074 ≤ (i + 52) by omega) hj2).2.2
  rw [pw_ex hj1 hj2] at he
  have hfr := pw_frac hj1 hj2
  have hz : ¬ key (pw i) = 0 := by omega
  clear k1 hl hp
  go_enter Try.func35, Try.ntmps35
  go_wp2_with (first | (go_at_call 41; refine (norm_small _ h1 h2 _).mono ?_; rintro e w' ⟨rfl, n, rfl⟩) | (go_at_call 38; refine (absP _ HA.out _).mono ?_; rintro e w' ⟨rfl, rfl⟩) | (go_at_call 32; go_in) | (go_at_call 31; go_in))
  go_ret2
  refine ⟨?_, by first | exact ⟨_, rfl⟩ | exact ⟨0, rfl⟩⟩
  simp
  try omega

theorem frexp_pw (i : Int) (h1 : -1074 ≤ i) (h2 : i ≤ 1023) (w : World) : Calls Try.prog 35 #[.float .f64 (pw i)] w fun e w' => e = .returned (.tuple #[.float .f64 4602678819172646912, .int .i64 (i + 1)]) ∧ ∃ n, w' = w.drewN n := by
  by_cases c : -1022 ≤ i
  · exact frexp_big i c h2 w
  · exact frexp_small i h1 (by omega) w
theorem hn05 : nan 4602678819172646912 = false := by decide

set_option maxRecDepth 100000 in
theorem frexpX (i : Int) (h1 : -1074 ≤ i) (h2 : i ≤ 1023) (w : World) : Calls Try.prog 29 #[.float .f64 (pw i)] w fun e w' => e = .returned (.tuple #[.float .f64 4602678819172646912, .int .i64 (i + 1)]) ∧ ∃ n, w' = w.drewN n := by
  go_enter Try.func29, Try.ntmps29
  go_wp2_with (go_at_call 35; refine (frexp_pw _ h1 h2 _).mono ?_; rintro e w' ⟨rfl, n, rfl⟩)
  go_ret2
  exact ⟨rfl, _, rfl⟩

set_option maxRecDepth 100000 in
theorem log2lo (i : Int) (h1 : -1074 ≤ i) (h2 : i ≤ 1023) (w : World) : Calls Try.prog 26 #[.float .f64 (pw i)] w fun e w' => e = .returned (.float .f64 (floatOfInt .f64 i)) ∧ ∃ n, w' = w.drewN n := by
  have hn := hn05
  go_enter Try.func26, Try.ntmps26
  go_wp2_with (go_at_call 29; refine (frexpX _ h1 h2 _).mono ?_; rintro e w' ⟨rfl, n, rfl⟩)
  go_ret
  exact ⟨rfl, _, rfl⟩

set_option maxRecDepth 100000 in
theorem log2up (i : Int) (h1 : -1074 ≤ i) (h2 : i ≤ 1023) (w : World) : Calls Try.prog 19 #[.float .f64 (pw i)] w fun e w' => e = .returned (.float .f64 (floatOfInt .f64 i)) ∧ ∃ n, w' = w.drewN n := by
  go_enter Try.func19, Try.ntmps19
  go_wp2_with (go_at_call 26; refine (log2lo _ h1 h2 _).mono ?_; rintro e w' ⟨rfl, n, rfl⟩)
  go_ret
  exact ⟨rfl, _, rfl⟩

set_option maxRecDepth 100000 in
theorem log2F (i : Int) (h1 : -1074 ≤ i) (h2 : i ≤ 1023) (w : World) : Calls Try.prog 14 #[.agg #[.float .f64 (pw i)]] w fun e w' => e = .returned (.agg #[.float .f64 (floatOfInt .f64 i)]) ∧ Below w.heap.size w w' := by
  go_enter Try.func14, Try.ntmps14
  go_wp2_with (first | (go_at_call 7; refine (newF64 _ _).mono ?_; rintro e w' ⟨rfl, rfl⟩) | (go_at_call 19; refine (log2up _ h1 h2 _).mono ?_; rintro e w' ⟨rfl, n, rfl⟩))
  refine bodyPost_ret (v := .agg #[.float .f64 (floatOfInt .f64 i)]) (by simp [results, Try.results14, go_sem]) rfl ⟨rfl, ?_⟩
  repeat' (first | exact Below.refl _ _ | refine Below.alloc ?_ ?_ _ | refine Below.setCell ?_ ?_ _ | refine below_drewN ?_ _ | refine Below.drew ?_ | (simp <;> omega) | omega)

theorem fnLog2OfPowerOfTwoIsExponent.walk (a0 : Int) (w0 : (Lit.int .i64 a0).wf = true) (w : World) : Calls Try.prog 5 #[.int .i64 a0] w fun e w' => e = .returned (.bool true) ∧ Below w.heap.size w w' := by
  by_cases hr : a0 < -1074 ∨ 1023 < a0
  · rcases hr with hr | hr
    all_goals
      go_enter Try.func5, Try.ntmps5
      go_wp2
      go_ret
      exact ⟨rfl, Below.refl _ _⟩
  · have h1 : -1074 ≤ a0 := by omega
    have h2 : a0 ≤ 1023 := by omega
    clear hr
    have hz := pw_zero
    have HL := Lib.hid (log2F a0 h1 h2)
    have hnn := foi_not_nan a0
    by_cases h0 : 0 ≤ a0
    · 
      go_enter Try.func5, Try.ntmps5
      go_wp2
      go_loopw [3, 4] (fun b a wr => ∃ (i : Int) (n : Nat), 0 ≤ i ∧ i ≤ a0 ∧ a = .int .i64 i ∧ b = .float .f64 (pw i) ∧ wr = w.drewN n) (fun _ a _ => (a0 - intOf a).toNat)
      case atStart => exact ⟨0, 0, Int.le_refl _, h0, rfl, by rw [hz], rfl⟩
      case round =>
        obtain ⟨i, n, hi0, hik, rfl, rfl, rfl⟩ := hrel
        by_cases hlt : i < a0
        · have hd := pw_double (i := i) (by omega) (by omega)
          generalize hq : pw (i + 1) = q at *
          go_wp2
          go_roundw
          case rel => exact ⟨i + 1, _, by omega, by omega, rfl, by rw [hq], rfl⟩
          case measure => simp [intOf]; omega
        · obtain rfl : i = a0 := by omega
          go_wp2_with (first | (go_at_call 7; refine (newF64 _ _).mono ?_; rintro e w' ⟨rfl, rfl⟩) | (go_at_call 9; refine (value _ _).mono ?_; rintro e w' ⟨rfl, rfl⟩) | (go_at_call 14; refine (HL.out _).mono ?_; rintro e w' ⟨rfl, hb⟩))
          go_ret
          refine ⟨rfl, ?_⟩
          repeat' (first | exact Below.refl _ _ | refine below_alloc ?_ _ | refine below_drewN ?_ _ | refine Below.drew ?_ | refine below_step ?_ (by assumption))
    · 
      go_enter Try.func5, Try.ntmps5
      go_wp2
      go_loopw [3, 5] (fun b a wr => ∃ (i : Int) (n : Nat), 0 ≤ i ∧ i ≤ -a0 ∧ a = .int .i64 i ∧ b = .float .f64 (pw (-i)) ∧ wr = w.drewN n) (fun _ a _ => (-a0 - intOf a).toNat)
      case atStart => exact ⟨0, 0, Int.le_refl _, by omega, rfl, by rw [show (-(0:Int)) = 0 from rfl, hz], rfl⟩
      case round =>
        obtain ⟨i, n, hi0, hik, rfl, rfl, rfl⟩ := hrel
        by_cases hlt : i < -a0
        · have hd := pw_halve (i := -i) (by omega) (by omega)
          rw [show -i - 1 = -(i + 1) by omega] at hd
          generalize hq : pw (-(i + 1)) = q at *
          go_wp2
          go_roundw
          case rel => exact ⟨i + 1, _, by omega, by omega, rfl, by rw [hq], rfl⟩
          case measure => simp [intOf]; omega
        · obtain rfl : i = -a0 := by omega
          rw [Int.neg_neg]
          go_wp2_with (first | (go_at_call 7; refine (newF64 _ _).mono ?_; rintro e w' ⟨rfl, rfl⟩) | (go_at_call 9; refine (value _ _).mono ?_; rintro e w' ⟨rfl, rfl⟩) | (go_at_call 14; refine (HL.out _).mono ?_; rintro e w' ⟨rfl, hb⟩))
          go_ret
          refine ⟨rfl, ?_⟩
          repeat' (first | exact Below.refl _ _ | refine below_alloc ?_ _ | refine below_drewN ?_ _ | refine Below.drew ?_ | refine below_step ?_ (by assumption))

end Go.Proofs.Ythockcodajmkmaa
