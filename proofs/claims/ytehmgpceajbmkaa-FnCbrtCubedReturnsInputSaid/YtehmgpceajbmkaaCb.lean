/- Contracts and walks of n011_21: the cube root. -/
import Derived.Test.YtehmgpceajbmkaaK
import Derived.Test.YtehmgpceajbmkaaF64T
import Derived.Test.YtehmgpceajbmkaaF64R
namespace Go.Proofs.Ytehmgpceajbmkaa
open Go.RowKit Go.Fl
set_option linter.unusedVariables false
set_option linter.unusedSimpArgs false
attribute [local go_sem ↓] Go.wp_at_zero Go.wp_at_succ

theorem bits_run (x : Nat) (w : World) : (callFunc 27 #[.float .f64 x]).run Try.prog w = .ok (.value (.int .u64 x)) w := by
  rw [run_callFunc_extern (fn := Try.f27) (e := Extern.MathFloatBits.float64bits) Try.func27 (by kernel_rfl) (by kernel_rfl) (by kernel_rfl) (by kernel_rfl)]
  rfl
theorem frombits_run (n : Int) (w : World) : (callFunc 26 #[.int .u64 n]).run Try.prog w = .ok (.value (.float .f64 n.toNat)) w := by
  rw [run_callFunc_extern (fn := Try.f26) (e := Extern.MathFloatBits.float64frombits) Try.func26 (by kernel_rfl) (by kernel_rfl) (by kernel_rfl) (by kernel_rfl)]
  rfl
theorem abs_bits {x : Nat} (hx : x < 2 ^ 64) : bits .andNot .u64 (x : Int) 9223372036854775808 = (rung x : Int) := by
  have e : (BitVec.ofInt 64 (x : Int) &&& ~~~(BitVec.ofInt 64 9223372036854775808)).toNat = rung x := by
    have h1 : ~~~(BitVec.ofInt 64 9223372036854775808) = BitVec.ofNat 64 (2 ^ 63 - 1) := by decide
    rw [h1, BitVec.toNat_and]
    have h2 : (BitVec.ofInt 64 (x : Int)).toNat = x := by
      rw [BitVec.ofInt_natCast, BitVec.toNat_ofNat]; exact Nat.mod_eq_of_lt hx
    rw [h2, BitVec.toNat_ofNat, Nat.mod_eq_of_lt (by decide), Nat.and_two_pow_sub_one_eq_mod]
    rfl
  have hl := rung_lt x
  unfold bits
  show IntKind.u64.wrap (((BitVec.ofInt 64 (x : Int) &&& ~~~(BitVec.ofInt 64 9223372036854775808)).toNat : Nat) : Int) = _
  rw [e]
  simp only [IntKind.wrap, IntKind.bits, IntKind.signed]
  simp
  omega
theorem absM (x : Nat) (hx : x < 2 ^ 64) (w : World) : Calls Try.prog 28 #[.float .f64 x] w fun e w' => e = .returned (.float .f64 (rung x)) ∧ w = w' := by
  have ha := abs_bits hx
  have hf := frombits_run
  have hb := bits_run
  generalize rung x = r at *
  go_enter Try.func28, Try.ntmps28
  go_wp2
  go_ret
  exact ⟨rfl, rfl⟩
theorem isNaNM (x : Nat) (w : World) : Calls Try.prog 24 #[.float .f64 x] w fun e w' => e = .returned (.bool (nan x)) ∧ w = w' := by
  cases h : nan x
  all_goals
    go_enter Try.func24, Try.ntmps24
    go_wp2
    go_ret
    exact ⟨rfl, rfl⟩
theorem isInfM (x : Nat) (hx : x < 2 ^ 64) (hn : nan x = false) (v : Bool) (hv : decide (rung x = infR) = v) (w : World) : Calls Try.prog 25 #[.float .f64 x, .int .i64 0] w fun e w' => e = .returned (.bool v) ∧ w = w' := by
  have hl := rung_lt x
  have h1 : rung (rung x) = rung x := by unfold rung; omega
  have h2 : neg (rung x) = false := by
    unfold neg
    have : rung x / 2 ^ 63 = 0 := by omega
    rw [this]; rfl
  have hnr : nan (rung x) = false := by unfold nan at *; rw [h1]; exact hn
  have hkr : key (rung x) = (rung x : Int) := by unfold key; rw [h1, h2]; simp
  have hk : key 9218868437227405311 = 9218868437227405311 := by decide
  have hc : nan 9218868437227405311 = false := by decide
  have hle : rung x ≤ infR := by have := hn; unfold nan at this; simpa using this
  have HX := Lib.hid hx
  have HV : Hid (v = decide (9218868437227405311 < (rung x : Int))) := Lib.hid (by
    rw [← hv, Bool.eq_iff_iff]
    simp only [decide_eq_true_eq]
    unfold infR at *
    omega)
  clear h1 h2 hv hle hl hx hn
  go_enter Try.func25, Try.ntmps25
  go_wp2_with (go_at_call 28; refine (absM _ HX.out _).mono ?_; rintro e w' ⟨rfl, rfl⟩)
  all_goals go_ret
  all_goals exact ⟨by rw [HV.out]; exact ret_bool (by simp <;> omega), rfl⟩
theorem key_let (x : Nat) (h0 : 0 < x) (hx : x < infR) : ∃ X : Int, key x = X ∧ 0 < X ∧ X ≤ 9218868437227405311 ∧ X = (x : Int) := ⟨(x : Int), key_self hx, by omega, by unfold infR at hx; omega, rfl⟩
theorem toNat_q (x c : Nat) : ((x : Int) / 3 + (c : Int)).toNat = x / 3 + c := by omega
theorem rough_run2 (x T0 c : Nat) (C : Int) (hx : x < infR) (hc : C = (c : Int)) (hT : T0 = x / 3 + c) : ∃ X : Int, (∀ w, (callFunc 27 #[.float .f64 x]).run Try.prog w = .ok (.value (.int .u64 X)) w) ∧ (∀ w, (callFunc 26 #[.int .u64 (X / 3 + C)]).run Try.prog w = .ok (.value (.float .f64 T0)) w) ∧ 0 ≤ X ∧ X ≤ 9218868437227405311 :=
  ⟨(x : Int), fun w => bits_run x w, fun w => by rw [hc, frombits_run, toNat_q, hT], by omega, by unfold infR at hx; omega⟩
theorem rough_run (x T0 c : Nat) (C : Int) (h0 : 0 < x) (hx : x < infR) (hc : C = (c : Int)) (hT : T0 = x / 3 + c) : ∃ X : Int, (∀ w, (callFunc 27 #[.float .f64 x]).run Try.prog w = .ok (.value (.int .u64 X)) w) ∧ key x = X ∧ (∀ w, (callFunc 26 #[.int .u64 (X / 3 + C)]).run Try.prog w = .ok (.value (.float .f64 T0)) w) ∧ 0 < X ∧ X ≤ 9218868437227405311 ∧ X = (x : Int) :=
  ⟨(x : Int), fun w => bits_run x w, key_self hx, fun w => by rw [hc, frombits_run, toNat_q, hT], by omega, by unfold infR at hx; omega, rfl⟩
theorem f_some {op : BinOp} {x y z : Nat} (h : floatBits op .f64 x y = some z) : (∀ w, fop op w x y = z) ∧ fdr op x y = 0 := by
  unfold fop fdr; simp [h]
theorem clear30 (t : Nat) (h : t < 2 ^ 64) : bits .and .u64 (t : Int) 18446744072635809792 = ((t / 2 ^ 30 * 2 ^ 30 : Nat) : Int) := by
  have h1 := clear_low t 30 h (by decide)
  have e : (BitVec.ofInt 64 (t : Int) &&& BitVec.ofInt 64 18446744072635809792).toNat = t / 2 ^ 30 * 2 ^ 30 := by
    rw [BitVec.toNat_and]
    have h2 : (BitVec.ofInt 64 (t : Int)).toNat = t := by
      rw [BitVec.ofInt_natCast, BitVec.toNat_ofNat]; exact Nat.mod_eq_of_lt h
    have h3 : (BitVec.ofInt 64 18446744072635809792).toNat = 2 ^ 64 - 2 ^ 30 := by decide
    rw [h2, h3, h1]
  unfold bits
  show IntKind.u64.wrap (((BitVec.ofInt 64 (t : Int) &&& BitVec.ofInt 64 18446744072635809792).toNat : Nat) : Int) = _
  rw [e]
  simp only [IntKind.wrap, IntKind.bits, IntKind.signed]
  simp
  omega
theorem chop_run (t1 : Nat) (h : t1 < infR) : ∃ (t2 : Nat) (Y M : Int), t1 / 2 ^ 30 * 2 ^ 30 + 2 ^ 30 = t2 ∧ (∀ w, (callFunc 27 #[.float .f64 t1]).run Try.prog w = .ok (.value (.int .u64 Y)) w) ∧ bits .and .u64 Y 18446744072635809792 = M ∧
    (∀ w, (callFunc 26 #[.int .u64 (M + 1073741824)]).run Try.prog w = .ok (.value (.float .f64 t2)) w) ∧ 0 ≤ M ∧ M ≤ 9223372036854775807 :=
  ⟨_, (t1 : Int), ((t1 / 2 ^ 30 * 2 ^ 30 : Nat) : Int), rfl, fun w => bits_run t1 w, clear30 t1 (by unfold infR at h; omega), fun w => by
    rw [frombits_run]
    congr 3, by omega, by unfold infR at h; omega⟩

theorem cbrt_pos (x t : Nat) (h0 : 0 < x) (hx : x < infR) (h : CB x t) (w : World) : Calls Try.prog 23 #[.float .f64 x] w fun e w' => e = .returned (.float .f64 t) ∧ ∃ n, w' = w.drewN n := by
  obtain ⟨T0, a1, r, b1, s, c1, c2, c3, c4, c5, t1, s2, r2, w0, d, e, f, g, hR, hT0, ht1, hA, hB⟩ := h
  have hx64 : x < 2 ^ 64 := by unfold infR at hx; omega
  obtain ⟨t2, Y, M, ht2e, hby, ht2a, ht2f, hM0, hMb⟩ := chop_run t1 ht1
  rw [ht2e] at hB
  obtain ⟨A1, A2, A3, A4, A5, A6, A7, A8, A9, A10⟩ := hA
  obtain ⟨B1, B2, B3, B4, B5, B6, B7, B8⟩ := hB
  unfold cC at A4
  unfold cE at A5
  unfold cD at A6
  unfold cF at A8
  unfold cG at A9
  obtain ⟨fA1, dA1⟩ := f_some A1
  obtain ⟨fA2, dA2⟩ := f_some A2
  obtain ⟨fA3, dA3⟩ := f_some A3
  obtain ⟨fA4, dA4⟩ := f_some A4
  obtain ⟨fA5, dA5⟩ := f_some A5
  obtain ⟨fA6, dA6⟩ := f_some A6
  obtain ⟨fA7, dA7⟩ := f_some A7
  obtain ⟨fA8, dA8⟩ := f_some A8
  obtain ⟨fA9, dA9⟩ := f_some A9
  obtain ⟨fA10, dA10⟩ := f_some A10
  obtain ⟨fB1, dB1⟩ := f_some B1
  obtain ⟨fB2, dB2⟩ := f_some B2
  obtain ⟨fB3, dB3⟩ := f_some B3
  obtain ⟨fB4, dB4⟩ := f_some B4
  obtain ⟨fB5, dB5⟩ := f_some B5
  obtain ⟨fB6, dB6⟩ := f_some B6
  obtain ⟨fB7, dB7⟩ := f_some B7
  obtain ⟨fB8, dB8⟩ := f_some B8
  clear ht2e ht1 A1 A2 A3 A4 A5 A6 A7 A8 A9 A10 B1 B2 B3 B4 B5 B6 B7 B8
  have hk0 : key 0 = 0 := key_c0
  have hkm : key 4503599627370496 = 4503599627370496 := by decide
  have hnm : nan 4503599627370496 = false := by decide
  rcases hR with ⟨h52, hT⟩ | ⟨h52, m, hm, hmf, hT⟩
  · obtain ⟨X, hbx, hkx, hfx, hX0, hXb, hXs⟩ := rough_run x T0 3071306043645493248 3071306043645493248 h0 hx rfl hT
    have hsn : ¬ X < 4503599627370496 := by omega
    have HX := Lib.hid hx
    have HX64 := Lib.hid hx64
    have hnn : nan x = false := not_nan (by rw [rung_self hx]; omega)
    have hz : ¬ X = 0 := by omega
    have hlt : ¬ X < 0 := by omega
    clear hT hT0 h52 hx hx64 hXs h0
    go_enter Try.func23, Try.ntmps23
    go_wp2_with (first | (go_at_call 24; refine (isNaNM _ _).mono ?_; rintro e w' ⟨rfl, rfl⟩) | (go_at_call 25; refine (isInfM _ HX64.out hnn false (by rw [rung_self HX.out]; exact decide_eq_false (by have := HX.out; omega)) _).mono ?_; rintro e w' ⟨rfl, rfl⟩))
    go_ret
    exact ⟨rfl, _, rfl⟩
  · obtain ⟨fm, dm⟩ := f_some hm
    obtain ⟨T9, hT9⟩ : ∃ T9, T9 = x / 3 + 3071306043645493248 := ⟨_, rfl⟩
    obtain ⟨X, hbx, hkx, hfx, hX0, hXb, hXs⟩ := rough_run x T9 3071306043645493248 3071306043645493248 h0 hx rfl hT9
    obtain ⟨Z, hbz, hfz, hZ0, hZb⟩ := rough_run2 m T0 2990241250352824320 2990241250352824320 hmf rfl hT
    have hsn : X < 4503599627370496 := by omega
    have HX := Lib.hid hx
    have HX64 := Lib.hid hx64
    have hnn : nan x = false := not_nan (by rw [rung_self hx]; omega)
    have hz : ¬ X = 0 := by omega
    have hlt : ¬ X < 0 := by omega
    clear hT hT0 h52 hx hx64 hm hmf hXs h0 hT9
    go_enter Try.func23, Try.ntmps23
    go_wp2_with (first | (go_at_call 24; refine (isNaNM _ _).mono ?_; rintro e w' ⟨rfl, rfl⟩) | (go_at_call 25; refine (isInfM _ HX64.out hnn false (by rw [rung_self HX.out]; exact decide_eq_false (by have := HX.out; omega)) _).mono ?_; rintro e w' ⟨rfl, rfl⟩))
    go_ret
    exact ⟨rfl, _, rfl⟩

theorem cbrt_neg (x t : Nat) (h0 : 0 < x) (hx : x < infR) (h : CB x t) (w : World) : Calls Try.prog 23 #[.float .f64 (Op.negFloat .f64 x)] w fun e w' => e = .returned (.float .f64 (Op.negFloat .f64 t)) ∧ ∃ n, w' = w.drewN n := by
  obtain ⟨T0, a1, r, b1, s, c1, c2, c3, c4, c5, t1, s2, r2, w0, d, e, f, g, hR, hT0, ht1, hA, hB⟩ := h
  have hx64 : x < 2 ^ 64 := by unfold infR at hx; omega
  obtain ⟨t2, Y, M, ht2e, hby, ht2a, ht2f, hM0, hMb⟩ := chop_run t1 ht1
  rw [ht2e] at hB
  obtain ⟨A1, A2, A3, A4, A5, A6, A7, A8, A9, A10⟩ := hA
  obtain ⟨B1, B2, B3, B4, B5, B6, B7, B8⟩ := hB
  unfold cC at A4
  unfold cE at A5
  unfold cD at A6
  unfold cF at A8
  unfold cG at A9
  obtain ⟨fA1, dA1⟩ := f_some A1
  obtain ⟨fA2, dA2⟩ := f_some A2
  obtain ⟨fA3, dA3⟩ := f_some A3
  obtain ⟨fA4, dA4⟩ := f_some A4
  obtain ⟨fA5, dA5⟩ := f_some A5
  obtain ⟨fA6, dA6⟩ := f_some A6
  obtain ⟨fA7, dA7⟩ := f_some A7
  obtain ⟨fA8, dA8⟩ := f_some A8
  obtain ⟨fA9, dA9⟩ := f_some A9
  obtain ⟨fA10, dA10⟩ := f_some A10
  obtain ⟨fB1, dB1⟩ := f_some B1
  obtain ⟨fB2, dB2⟩ := f_some B2
  obtain ⟨fB3, dB3⟩ := f_some B3
  obtain ⟨fB4, dB4⟩ := f_some B4
  obtain ⟨fB5, dB5⟩ := f_some B5
  obtain ⟨fB6, dB6⟩ := f_some B6
  obtain ⟨fB7, dB7⟩ := f_some B7
  obtain ⟨fB8, dB8⟩ := f_some B8
  clear ht2e ht1 A1 A2 A3 A4 A5 A6 A7 A8 A9 A10 B1 B2 B3 B4 B5 B6 B7 B8
  have hk0 : key 0 = 0 := key_c0
  have hkm : key 4503599627370496 = 4503599627370496 := by decide
  have hnm : nan 4503599627370496 = false := by decide
  rcases hR with ⟨h52, hT⟩ | ⟨h52, m, hm, hmf, hT⟩
  · obtain ⟨X, hbx, hkx, hfx, hX0, hXb, hXs⟩ := rough_run x T0 3071306043645493248 3071306043645493248 h0 hx rfl hT
    have hsn : ¬ X < 4503599627370496 := by omega
    have HX := Lib.hid hx
    have HX64 := Lib.hid hx64
    have hky : key (Op.negFloat .f64 x) = -X := by rw [key_neg hx64, hkx]
    have hnn : nan (Op.negFloat .f64 x) = false := not_nan (by rw [(neg_word hx).2.1]; omega)
    have hnx : nan x = false := not_nan (by rw [rung_self hx]; omega)
    have htw : Op.negFloat .f64 (Op.negFloat .f64 x) = x := negFloat_twice hx64
    have hz : ¬ -X = 0 := by omega
    have hz2 : ¬ X = 0 := by omega
    have hlt : -X < 0 := by omega
    have hlt2 : 0 < X := by omega
    clear hT hT0 h52 hx hx64 hXs h0
    go_enter Try.func23, Try.ntmps23
    go_wp2_with (first | (go_at_call 24; refine (isNaNM _ _).mono ?_; rintro e w' ⟨rfl, rfl⟩) | (go_at_call 25; refine (isInfM _ (negFloat_lt HX64.out) hnn false (by rw [(neg_word HX.out).2.1]; exact decide_eq_false (by have := HX.out; omega)) _).mono ?_; rintro e w' ⟨rfl, rfl⟩))
    go_ret
    exact ⟨rfl, _, rfl⟩
  · obtain ⟨fm, dm⟩ := f_some hm
    obtain ⟨T9, hT9⟩ : ∃ T9, T9 = x / 3 + 3071306043645493248 := ⟨_, rfl⟩
    obtain ⟨X, hbx, hkx, hfx, hX0, hXb, hXs⟩ := rough_run x T9 3071306043645493248 3071306043645493248 h0 hx rfl hT9
    obtain ⟨Z, hbz, hfz, hZ0, hZb⟩ := rough_run2 m T0 2990241250352824320 2990241250352824320 hmf rfl hT
    have hsn : X < 4503599627370496 := by omega
    have HX := Lib.hid hx
    have HX64 := Lib.hid hx64
    have hky : key (Op.negFloat .f64 x) = -X := by rw [key_neg hx64, hkx]
    have hnn : nan (Op.negFloat .f64 x) = false := not_nan (by rw [(neg_word hx).2.1]; omega)
    have hnx : nan x = false := not_nan (by rw [rung_self hx]; omega)
    have htw : Op.negFloat .f64 (Op.negFloat .f64 x) = x := negFloat_twice hx64
    have hz : ¬ -X = 0 := by omega
    have hz2 : ¬ X = 0 := by omega
    have hlt : -X < 0 := by omega
    have hlt2 : 0 < X := by omega
    clear hT hT0 h52 hx hx64 hm hmf hXs h0 hT9
    go_enter Try.func23, Try.ntmps23
    go_wp2_with (first | (go_at_call 24; refine (isNaNM _ _).mono ?_; rintro e w' ⟨rfl, rfl⟩) | (go_at_call 25; refine (isInfM _ (negFloat_lt HX64.out) hnn false (by rw [(neg_word HX.out).2.1]; exact decide_eq_false (by have := HX.out; omega)) _).mono ?_; rintro e w' ⟨rfl, rfl⟩))
    go_ret
    exact ⟨rfl, _, rfl⟩

theorem cbrt_zero (x : Nat) (hx : x < 2 ^ 64) (h : key x = 0) (hn : nan x = false) (w : World) : Calls Try.prog 23 #[.float .f64 x] w fun e w' => e = .returned (.float .f64 x) ∧ ∃ n, w' = w.drewN n := by
  clear hx
  go_enter Try.func23, Try.ntmps23
  go_wp2_with fail
  go_ret
  exact ⟨rfl, 0, rfl⟩
theorem cbrt_nan (x : Nat) (hx : x < 2 ^ 64) (hn : nan x = true) (w : World) : Calls Try.prog 23 #[.float .f64 x] w fun e w' => e = .returned (.float .f64 x) ∧ ∃ n, w' = w.drewN n := by
  clear hx
  go_enter Try.func23, Try.ntmps23
  go_wp2_with (go_at_call 24; refine (isNaNM _ _).mono ?_; rintro e w' ⟨rfl, rfl⟩)
  go_ret
  exact ⟨rfl, 0, rfl⟩
theorem cbrt_inf (x : Nat) (hx : x < 2 ^ 64) (hn : nan x = false) (hi : rung x = infR) (w : World) : Calls Try.prog 23 #[.float .f64 x] w fun e w' => e = .returned (.float .f64 x) ∧ ∃ n, w' = w.drewN n := by
  have hk : ¬ key x = 0 := fun h => by have := (key_zero_iff x).1 h; rw [hi] at this; exact absurd this (by decide)
  have HX := Lib.hid hx
  have HI := Lib.hid hi
  clear hx hi
  go_enter Try.func23, Try.ntmps23
  go_wp2_with (first | (go_at_call 24; refine (isNaNM _ _).mono ?_; rintro e w' ⟨rfl, rfl⟩) | (go_at_call 25; refine (isInfM _ HX.out hn true (decide_eq_true HI.out) _).mono ?_; rintro e w' ⟨rfl, rfl⟩))
  go_ret
  exact ⟨rfl, 0, rfl⟩
def Root (x r : Nat) : Prop := ∀ w, Calls Try.prog 23 #[.float .f64 x] w fun e w' => e = .returned (.float .f64 r) ∧ ∃ n, w' = w.drewN n
theorem mathCbrt (x r : Nat) (h : Root x r) (w : World) : Calls Try.prog 20 #[.float .f64 x] w fun e w' => e = .returned (.float .f64 r) ∧ ∃ n, w' = w.drewN n := by
  have H := Lib.hid h
  clear h
  go_enter Try.func20, Try.ntmps20
  go_wp2_with (go_at_call 23; refine (H.out _).mono ?_; rintro e w' ⟨rfl, n, rfl⟩)
  go_ret
  exact ⟨rfl, n, rfl⟩
theorem hCbrt (x r : Nat) (h : Root x r) (w : World) : Calls Try.prog 17 #[.agg #[.float .f64 x]] w (GivesJust r w) := by
  have H := Lib.hid h
  clear h
  go_enter Try.func17, Try.ntmps17
  go_wp2_with (first | (go_at_call 8; refine (newF64 _ _).mono ?_; rintro e w' ⟨rfl, rfl⟩) | (go_at_call 20; refine (mathCbrt _ _ H.out _).mono ?_; rintro e w' ⟨rfl, n, rfl⟩))
  refine bodyPost_ret (v := .agg #[.float .f64 r]) (by simp [results, Try.results17, go_sem]) rfl ⟨rfl, ?_⟩
  repeat' (first | exact Below.refl _ _ | refine Below.alloc ?_ ?_ _ | refine Below.setCell ?_ ?_ _ | refine below_drewN ?_ _ | refine Below.drew ?_ | (simp <;> omega) | omega)
def CbLaw (x : Nat) (w : World) : Prop := Calls Try.prog 7 #[.float .f64 x] w fun e w' => e = .returned (.bool true) ∧ Below w.heap.size w w'

theorem law_nan (x r : Nat) (hx : x < 2 ^ 64) (hr : r < 2 ^ 64) (h1 : Root x r) (h2 : Root (Op.negFloat .f64 x) (Op.negFloat .f64 r)) (hn : nan x = true) (hnr : nan r = true) (hnr' : nan (Op.negFloat .f64 r) = true) (w : World) : CbLaw x w := by
  have R1 := Lib.hid h1
  have R2 := Lib.hid h2
  have HX := Lib.hid hx
  have HL := Lib.hid hr
  have HL' := Lib.hid (negFloat_lt hr)
  clear h1 h2 hx hr
  unfold CbLaw
  go_enter Try.func7, Try.ntmps7
  go_wp2_with (first | (go_at_call 8; refine (newF64 _ _).mono ?_; rintro e w' ⟨rfl, rfl⟩) | (go_at_call 10; refine (value _ _).mono ?_; rintro e w' ⟨rfl, rfl⟩) | (go_at_call 17; ((with_reducible refine (hCbrt x r R1.out _).mono ?_); rintro e w' ⟨rfl, hb⟩)) | (go_at_call 17; ((with_reducible refine (hCbrt (Op.negFloat .f64 x) (Op.negFloat .f64 r) R2.out _).mono ?_); rintro e w' ⟨rfl, hb'⟩)) | (go_at_call 11; refine (isNaN' _ _).mono ?_; rintro e w' ⟨rfl, rfl⟩) | (go_at_call 12; refine (sameF_true _ _ (by first | exact HX.out | exact (HL.out) | exact (HL'.out)) (by first | exact HX.out | exact (HL.out) | exact (HL'.out)) (sameB_self _) _).mono ?_; rintro e w' ⟨rfl, hb2⟩) | (go_at_call 13; refine (signNeg _ (by assumption) _).mono ?_; rintro e w' ⟨rfl, n, rfl⟩))
  go_ret
  refine ⟨rfl, ?_⟩
  repeat' (first | exact Below.refl _ _ | refine below_alloc ?_ _ | refine below_drewN ?_ _ | refine Below.drew ?_ | refine below_step ?_ (by assumption))

theorem law_zero (x : Nat) (hx : x < 2 ^ 64) (hr : x < 2 ^ 64) (h1 : Root x x) (h2 : Root (Op.negFloat .f64 x) (Op.negFloat .f64 x)) (hn : nan x = false) (hk : key x = 0) (w : World) : CbLaw x w := by
  have R1 := Lib.hid h1
  have R2 := Lib.hid h2
  have HX := Lib.hid hx
  have HL := Lib.hid hr
  have HL' := Lib.hid (negFloat_lt hr)
  clear h1 h2 hx hr
  unfold CbLaw
  go_enter Try.func7, Try.ntmps7
  go_wp2_with (first | (go_at_call 8; refine (newF64 _ _).mono ?_; rintro e w' ⟨rfl, rfl⟩) | (go_at_call 10; refine (value _ _).mono ?_; rintro e w' ⟨rfl, rfl⟩) | (go_at_call 17; ((with_reducible refine (hCbrt x x R1.out _).mono ?_); rintro e w' ⟨rfl, hb⟩)) | (go_at_call 17; ((with_reducible refine (hCbrt (Op.negFloat .f64 x) (Op.negFloat .f64 x) R2.out _).mono ?_); rintro e w' ⟨rfl, hb'⟩)) | (go_at_call 11; refine (isNaN' _ _).mono ?_; rintro e w' ⟨rfl, rfl⟩) | (go_at_call 12; refine (sameF_true _ _ (by first | exact HX.out | exact (HL.out) | exact (HL'.out)) (by first | exact HX.out | exact (HL.out) | exact (HL'.out)) (sameB_self _) _).mono ?_; rintro e w' ⟨rfl, hb2⟩) | (go_at_call 13; refine (signNeg _ (by assumption) _).mono ?_; rintro e w' ⟨rfl, n, rfl⟩))
  go_ret
  refine ⟨rfl, ?_⟩
  repeat' (first | exact Below.refl _ _ | refine below_alloc ?_ _ | refine below_drewN ?_ _ | refine Below.drew ?_ | refine below_step ?_ (by assumption))

theorem law_inf (x : Nat) (hx : x < 2 ^ 64) (hr : x < 2 ^ 64) (h1 : Root x x) (h2 : Root (Op.negFloat .f64 x) (Op.negFloat .f64 x)) (hn : nan x = false) (hk : key x = 9218868437227405312 ∨ key x = -9218868437227405312) (w : World) : CbLaw x w := by
  have R1 := Lib.hid h1
  have R2 := Lib.hid h2
  have HX := Lib.hid hx
  have HL := Lib.hid hr
  have HL' := Lib.hid (negFloat_lt hr)
  clear h1 h2 hx hr
  have hk1 : key 9218868437227405311 = 9218868437227405311 := by decide
  have hk2 : key 18442240474082181119 = -9218868437227405311 := by decide
  have hn1 : nan 9218868437227405311 = false := by decide
  have hn2 : nan 18442240474082181119 = false := by decide
  rcases hk with hk | hk
  · have hz : ¬ key x = 0 := by omega
    have g1 : 9218868437227405311 < key x := by omega
    clear hk
    unfold CbLaw
    go_enter Try.func7, Try.ntmps7
    go_wp2_with (first | (go_at_call 8; refine (newF64 _ _).mono ?_; rintro e w' ⟨rfl, rfl⟩) | (go_at_call 10; refine (value _ _).mono ?_; rintro e w' ⟨rfl, rfl⟩) | (go_at_call 17; ((with_reducible refine (hCbrt x x R1.out _).mono ?_); rintro e w' ⟨rfl, hb⟩)) | (go_at_call 17; ((with_reducible refine (hCbrt (Op.negFloat .f64 x) (Op.negFloat .f64 x) R2.out _).mono ?_); rintro e w' ⟨rfl, hb'⟩)) | (go_at_call 11; refine (isNaN' _ _).mono ?_; rintro e w' ⟨rfl, rfl⟩) | (go_at_call 12; refine (sameF_true _ _ (by first | exact HX.out | exact (HL.out) | exact (HL'.out)) (by first | exact HX.out | exact (HL.out) | exact (HL'.out)) (sameB_self _) _).mono ?_; rintro e w' ⟨rfl, hb2⟩) | (go_at_call 13; refine (signNeg _ (by assumption) _).mono ?_; rintro e w' ⟨rfl, n, rfl⟩))
    go_ret
    refine ⟨rfl, ?_⟩
    repeat' (first | exact Below.refl _ _ | refine below_alloc ?_ _ | refine below_drewN ?_ _ | refine Below.drew ?_ | refine below_step ?_ (by assumption))
  
  · have hz : ¬ key x = 0 := by omega
    have g1 : ¬ 9218868437227405311 < key x := by omega
    have g2 : key x < -9218868437227405311 := by omega
    have g3 : decide (9218868437227405311 < key x) = false := decide_eq_false g1
    clear hk
    unfold CbLaw
    go_enter Try.func7, Try.ntmps7
    go_wp2_with (first | (go_at_call 8; refine (newF64 _ _).mono ?_; rintro e w' ⟨rfl, rfl⟩) | (go_at_call 10; refine (value _ _).mono ?_; rintro e w' ⟨rfl, rfl⟩) | (go_at_call 17; ((with_reducible refine (hCbrt x x R1.out _).mono ?_); rintro e w' ⟨rfl, hb⟩)) | (go_at_call 17; ((with_reducible refine (hCbrt (Op.negFloat .f64 x) (Op.negFloat .f64 x) R2.out _).mono ?_); rintro e w' ⟨rfl, hb'⟩)) | (go_at_call 11; refine (isNaN' _ _).mono ?_; rintro e w' ⟨rfl, rfl⟩) | (go_at_call 12; refine (sameF_true _ _ (by first | exact HX.out | exact (HL.out) | exact (HL'.out)) (by first | exact HX.out | exact (HL.out) | exact (HL'.out)) (sameB_self _) _).mono ?_; rintro e w' ⟨rfl, hb2⟩) | (go_at_call 13; refine (signNeg _ (by assumption) _).mono ?_; rintro e w' ⟨rfl, n, rfl⟩))
    go_ret
    refine ⟨rfl, ?_⟩
    repeat' (first | exact Below.refl _ _ | refine below_alloc ?_ _ | refine below_drewN ?_ _ | refine Below.drew ?_ | refine below_step ?_ (by assumption))
  
theorem law_fin (x r : Nat) (hx : x < 2 ^ 64) (hr : r < 2 ^ 64) (h1 : Root x r) (h2 : Root (Op.negFloat .f64 x) (Op.negFloat .f64 r)) (hn : nan x = false) (hnr : nan r = false) (hs : neg r = neg x) (ka : -9218868437227405311 ≤ key x) (kb : key x ≤ 9218868437227405311) (ka' : -9218868437227405311 ≤ key r) (kb' : key r ≤ 9218868437227405311) (k0 : key x < 0 ∨ 0 < key x) (k0' : key r < 0 ∨ 0 < key r) (w : World) : CbLaw x w := by
  have R1 := Lib.hid h1
  have R2 := Lib.hid h2
  have HX := Lib.hid hx
  have HL := Lib.hid hr
  have HL' := Lib.hid (negFloat_lt hr)
  clear h1 h2 hx hr
  have hk1 : key 9218868437227405311 = 9218868437227405311 := by decide
  have hk2 : key 18442240474082181119 = -9218868437227405311 := by decide
  have hn1 : nan 9218868437227405311 = false := by decide
  have hn2 : nan 18442240474082181119 = false := by decide
  have z1 : ¬ key x = 0 := by omega
  have z2 : ¬ key r = 0 := by omega
  have z3 : decide (key r = 0) = false := decide_eq_false z2
  have b1 : ¬ 9218868437227405311 < key x := by omega
  have b2 : ¬ key x < -9218868437227405311 := by omega
  have b3 : ¬ 9218868437227405311 < key r := by omega
  have b4 : ¬ key r < -9218868437227405311 := by omega
  have b5 : decide (9218868437227405311 < key x) = false := decide_eq_false b1
  have b6 : decide (9218868437227405311 < key r) = false := decide_eq_false b3
  have hsg : neg r = neg x := hs
  have HS := Lib.hid hsg
  clear hs hsg
  unfold CbLaw
  go_enter Try.func7, Try.ntmps7
  go_wp2_with (first | (go_at_call 8; refine (newF64 _ _).mono ?_; rintro e w' ⟨rfl, rfl⟩) | (go_at_call 10; refine (value _ _).mono ?_; rintro e w' ⟨rfl, rfl⟩) | (go_at_call 17; ((with_reducible refine (hCbrt x r R1.out _).mono ?_); rintro e w' ⟨rfl, hb⟩)) | (go_at_call 17; ((with_reducible refine (hCbrt (Op.negFloat .f64 x) (Op.negFloat .f64 r) R2.out _).mono ?_); rintro e w' ⟨rfl, hb'⟩)) | (go_at_call 11; refine (isNaN' _ _).mono ?_; rintro e w' ⟨rfl, rfl⟩) | (go_at_call 12; refine (sameF_true _ _ (by first | exact HX.out | exact (HL.out) | exact (HL'.out)) (by first | exact HX.out | exact (HL.out) | exact (HL'.out)) (sameB_self _) _).mono ?_; rintro e w' ⟨rfl, hb2⟩) | (go_at_call 13; refine (signNeg _ (by assumption) _).mono ?_; rintro e w' ⟨rfl, n, rfl⟩))
  go_ret
  refine ⟨ret_bool (by rw [HS.out]; simp), ?_⟩
  repeat' (first | exact Below.refl _ _ | refine below_alloc ?_ _ | refine below_drewN ?_ _ | refine Below.drew ?_ | refine below_step ?_ (by assumption))

theorem fnCbrtIsOddAndKeepsClass.walk (a0 : Nat) (w0 : a0 < 2 ^ 64) (w : World) : Calls Try.prog 7 #[.float .f64 a0] w fun e w' => e = .returned (.bool true) ∧ Below w.heap.size w w' := by
  have hl := negFloat_lt w0
  have hnn := nan_neg w0
  cases hn : nan a0
  · rw [hn] at hnn
    have hkn := key_neg w0
    have hrn := rung_neg w0
    rcases not_nan_cases hn with hi | hf
    · have hk : key a0 = 9218868437227405312 ∨ key a0 = -9218868437227405312 := by
        unfold key; rw [hi]; unfold infR; split
        · right; rfl
        · left; rfl
      exact law_inf a0 w0 w0 (fun w => cbrt_inf a0 w0 hn hi w) (fun w => cbrt_inf _ hl hnn (by rw [hrn, hi]) w) hn hk w
    · by_cases h0 : key a0 = 0
      · exact law_zero a0 w0 w0 (fun w => cbrt_zero a0 w0 h0 hn w) (fun w => cbrt_zero _ hl (by rw [hkn, h0]; rfl) hnn w) hn h0 w
      · obtain ⟨x, hxe⟩ : ∃ x, x = rung a0 := ⟨_, rfl⟩
        have hx0 : 0 < x := by
          apply Nat.pos_of_ne_zero
          intro h
          exact h0 ((key_zero_iff a0).2 (by rw [← hxe, h]))
        have hxf : x < infR := by rw [hxe]; exact hf
        obtain ⟨t, hcb, ht0, htf⟩ := cb_exists hx0 hxf
        have ht64 : t < 2 ^ 64 := by unfold infR at htf; omega
        have hx64 : x < 2 ^ 64 := by unfold infR at hxf; omega
        have n1 := neg_word hxf
        have n2 := neg_word htf
        have kt := key_self htf
        have kx := key_self hxf
        have nt : nan t = false := not_nan (by rw [rung_self htf]; omega)
        have bx : (x : Int) ≤ 9218868437227405311 := by unfold infR at hxf; omega
        have btb : (t : Int) ≤ 9218868437227405311 := by unfold infR at htf; omega
        cases hs : neg a0
        · have e : a0 = x := by rw [hxe]; have := wd_self w0; rw [hs] at this; simpa [wd] using this.symm
          have w0' := w0
          subst e
          exact law_fin a0 t w0 ht64 (fun w => cbrt_pos a0 t hx0 hxf hcb w) (fun w => cbrt_neg a0 t hx0 hxf hcb w) hn nt (by rw [neg_self htf, hs]) (by rw [kx]; omega) (by rw [kx]; omega) (by rw [kt]; omega) (by rw [kt]; omega) (by rw [kx]; omega) (by rw [kt]; omega) w
        · have e : a0 = Op.negFloat .f64 x := by
            have h1 := wd_self w0
            rw [hs, ← hxe] at h1
            rw [n1.1, ← h1]; rfl
          have htw : Op.negFloat .f64 (Op.negFloat .f64 x) = x := negFloat_twice hx64
          have htt : Op.negFloat .f64 (Op.negFloat .f64 t) = t := negFloat_twice ht64
          subst e
          refine law_fin _ (Op.negFloat .f64 t) w0 (negFloat_lt ht64) (fun w => cbrt_neg x t hx0 hxf hcb w) ?_ hn (by rw [nan_neg ht64]; exact nt) (by rw [neg_neg ht64, neg_self htf, hs]; rfl) (by rw [n1.2.2.2]; omega) (by rw [n1.2.2.2]; omega) (by rw [n2.2.2.2]; omega) (by rw [n2.2.2.2]; omega) (by rw [n1.2.2.2]; omega) (by rw [n2.2.2.2]; omega) w
          rw [htw, htt]
          exact fun w => cbrt_pos x t hx0 hxf hcb w
  · rw [hn] at hnn
    exact law_nan a0 a0 w0 w0 (fun w => cbrt_nan a0 w0 hn w) (fun w => cbrt_nan _ hl hnn w) hn hn hnn w

end Go.Proofs.Ytehmgpceajbmkaa

