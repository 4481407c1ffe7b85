/- The law FnCbrtCubedReturnsInput (n011_21). -/
import Derived.Test.YtehmgpceajbmkaaCb
import Derived.Test.YtehmgpceajbmkaaF64ZZ
namespace Go.Proofs.Ytehmgpceajbmkaa
open Go.RowKit Go.Fl
set_option linter.unusedVariables false
set_option linter.unusedSimpArgs false
attribute [local go_sem ↓] Go.wp_at_zero Go.wp_at_succ

/-- x times 2 ^ -48 is exact. -/
theorem scale48 {x : Nat} (hx : x < infR) (hlo : 2 ^ 177 ≤ mag x) : ∃ z, floatBits .mul .f64 x 4391009636686233600 = some z ∧ z < infR ∧ 281474976710656 * mag z = mag x := by
  have h52 : ¬ x / 2 ^ 52 < 60 := by
    intro hlt
    have h1 : x ≤ 60 * 2 ^ 52 := by omega
    have h2 := mag_le h1
    have h3 : mag (60 * 2 ^ 52) < 2 ^ 177 := by decide
    omega
  obtain ⟨z, hz⟩ : ∃ z, z + 48 * 2 ^ 52 = x := ⟨x - 48 * 2 ^ 52, by omega⟩
  obtain ⟨e, he⟩ : ∃ e, z / 2 ^ 52 = e + 1 := ⟨z / 2 ^ 52 - 1, by omega⟩
  have hm : 281474976710656 * mag z = mag x := by
    have e1 : x / 2 ^ 52 = (e + 48) + 1 := by omega
    have e2 : x % 2 ^ 52 = z % 2 ^ 52 := by omega
    rw [mag_normal he, mag_normal e1, e2, Nat.pow_add]
    generalize 2 ^ 52 + z % 2 ^ 52 = M
    generalize 2 ^ e = G
    have : (2 : Nat) ^ 48 = 281474976710656 := by decide
    rw [this]
    ac_rfl
  have hzf : z < infR := by omega
  obtain ⟨v, hv⟩ : ∃ v, v = 974 := ⟨_, rfl⟩
  have hc : mag 4391009636686233600 = 2 ^ (52 + v) := by
    rw [mag_normal (x := 4391009636686233600) (e := v) (by rw [hv]), show 4391009636686233600 % 2 ^ 52 = 0 by decide, Nat.add_zero, ← Nat.pow_add]
  have hcf : (4391009636686233600 : Nat) < infR := by decide
  obtain ⟨r, hr, hmo⟩ := mul_mono (rung_fin hx) (rung_fin hcf) ub_eq
  have hub : ub = 48 + (52 + v) := by rw [ub_eq, hv]
  have hV : val z * 2 ^ ub = val x * val 4391009636686233600 := by
    rw [val_self hzf, val_self hx, val_self hcf, hc, ← hm, hub, cast_pow, Nat.pow_add]
    have e48 : (2 : Nat) ^ 48 = 281474976710656 := by decide
    rw [e48]
    generalize 2 ^ (52 + v) = G
    have : mag z * (281474976710656 * G) = 281474976710656 * mag z * G := by ac_rfl
    exact_mod_cast this
  have k1 := hmo.ge z (rung_fin hzf) (by rw [hV]; exact Int.le_refl _)
  have k2 := hmo.le z (rung_fin hzf) (by rw [hV]; exact Int.le_refl _)
  have hz0 : 0 < z := by omega
  rw [key_self hzf] at k1
  obtain ⟨f1, f2⟩ := pos_of_key hmo.lt hmo.num (by omega) hzf k2
  rw [key_self f1] at k1
  obtain rfl : r = z := by omega
  exact ⟨r, hr, hzf, hm⟩
/-- The difference lies under it. -/
theorem diff_in {c a z : Nat} (hc : rung c < infR) (ha : a < 2 ^ 64) (haf : rung a < infR) (hz : z < infR) (h1 : val c - val a ≤ (mag z : Int)) (h2 : -(mag z : Int) ≤ val c - val a) :
    ∃ d, floatBits .sub .f64 c a = some d ∧ d < 2 ^ 64 ∧ nan d = false ∧ -(z : Int) ≤ key d ∧ key d ≤ (z : Int) := by
  have hn : rung (Op.negFloat .f64 a) < infR := by rw [rung_neg ha]; exact haf
  have hvn : val (Op.negFloat .f64 a) = -val a := by
    unfold val; rw [neg_neg ha, rung_neg ha]
    cases neg a <;> simp
  obtain ⟨d, hd, hm⟩ := add_mono hc hn
  obtain ⟨n1, n2, n3, n4⟩ := neg_word hz
  have k1 := hm.le z (rung_fin hz) (by rw [val_self hz, hvn]; omega)
  have k2 := hm.ge (Op.negFloat .f64 z) (by rw [n2]; exact hz) (by rw [n3, hvn]; omega)
  rw [key_self hz] at k1
  rw [n4] at k2
  exact ⟨d, by rw [sub_is_add ha]; exact hd, hm.lt, hm.num, k2, k1⟩
theorem near_units {x n z : Nat} (hx : x < infR) (hn : n < infR) (hm : 281474976710656 * mag z = mag x) (f1 : rv n ≤ rv x + 12 * Rt.ep * rv x) (f2 : rv x - 12 * Rt.ep * rv x ≤ rv n) : val n - val x ≤ (mag z : Int) ∧ -(mag z : Int) ≤ val n - val x := by
  have hu := ur_pos
  have ex : ((mag z : Int) : Rat) * 281474976710656 = rv x * ur := by
    rw [← rv_ur x, val_self hx, ← hm]
    have : ((281474976710656 * mag z : Nat) : Int) = 281474976710656 * (mag z : Int) := by rw [Int.natCast_mul]; rfl
    rw [this, Rat.intCast_mul]
    have e : ((281474976710656 : Int) : Rat) = 281474976710656 := rfl
    rw [e, Rat.mul_comm]
  have g1 := Rat.mul_le_mul_of_nonneg_right f1 (Rat.le_of_lt hu)
  have g2 := Rat.mul_le_mul_of_nonneg_right f2 (Rat.le_of_lt hu)
  have xp : 0 ≤ rv x * ur := by
    rw [← rv_ur x, val_self hx]
    have : ((0 : Int) : Rat) ≤ (((mag x : Nat) : Int) : Rat) := Rat.intCast_le_intCast.2 (Int.natCast_nonneg _)
    exact this
  constructor
  · apply int_of_rat
    rw [Rat.intCast_sub, rv_ur x, rv_ur n]
    generalize ((mag z : Int) : Rat) = Z at *
    grind
  · apply int_of_rat
    rw [Rat.intCast_sub, Rat.intCast_neg, rv_ur x, rv_ur n]
    generalize ((mag z : Int) : Rat) = Z at *
    grind

theorem cubedIs (x r1 r : Nat) (h1 : floatBits .mul .f64 x x = some r1) (h2 : floatBits .mul .f64 r1 x = some r) (w : World) : Calls Try.prog 9 #[.agg #[.float .f64 x]] w (GivesJust r w) :=
  (hCubed x w).mono fun e w' ⟨s1, s, k1, k2, he, hb⟩ => by
    have e1 := k1.of_some h1
    subst e1
    have e2 := k2.of_some h2
    subst e2
    exact ⟨he, hb⟩
def CcLaw (x : Nat) (w : World) : Prop := Calls Try.prog 6 #[.float .f64 x] w fun e w' => e = .returned (.bool true) ∧ Below w.heap.size w w'

theorem cc_nan (x : Nat) (hn : nan x = true) (w : World) : CcLaw x w := by
  unfold CcLaw
  go_enter Try.func6, Try.ntmps6
  go_wp2_with fail
  go_ret
  exact ⟨rfl, Below.refl _ _⟩

theorem cc_out_pos (x : Nat) (hn : nan x = false) (h0 : ¬ key x < 0) (ho : key x < 567708407528440906 ∨ 8646428874712260188 < key x) (w : World) : CcLaw x w := by
  have ka : key 567708407528440906 = 567708407528440906 := by decide
  have kb : key 8646428874712260188 = 8646428874712260188 := by decide
  have na : nan 567708407528440906 = false := by decide
  have nb : nan 8646428874712260188 = false := by decide
  rcases ho with ho | ho
  · have g1 : ¬ 567708407528440906 ≤ key x := by omega
    have g2 : ¬ 567708407528440906 < key x := by omega
    have g3 : ¬ key x = 567708407528440906 := by omega
    unfold CcLaw
    go_enter Try.func6, Try.ntmps6
    go_wp2_with fail
    go_ret
    exact ⟨rfl, Below.refl _ _⟩
  · have g1 : 567708407528440906 < key x := by omega
    have g2 : ¬ key x < 8646428874712260188 := by omega
    have g3 : ¬ key x = 8646428874712260188 := by omega
    unfold CcLaw
    go_enter Try.func6, Try.ntmps6
    go_wp2_with fail
    go_ret
    exact ⟨rfl, Below.refl _ _⟩
theorem cc_out_neg (x : Nat) (X : Int) (hx : x < 2 ^ 64) (hn : nan x = false) (hk : key x = -X) (h0 : 0 < X) (ho : X < 567708407528440906 ∨ 8646428874712260188 < X) (w : World) : CcLaw x w := by
  have ka : key 567708407528440906 = 567708407528440906 := by decide
  have kb : key 8646428874712260188 = 8646428874712260188 := by decide
  have na : nan 567708407528440906 = false := by decide
  have nb : nan 8646428874712260188 = false := by decide
  have hk2 : key (Op.negFloat .f64 x) = X := by rw [key_neg hx, hk]; omega
  have hnn : nan (Op.negFloat .f64 x) = false := by rw [nan_neg hx]; exact hn
  have hneg : -X < 0 := by omega
  clear hx
  rcases ho with ho | ho
  · have g2 : ¬ 567708407528440906 < X := by omega
    have g3 : ¬ X = 567708407528440906 := by omega
    unfold CcLaw
    go_enter Try.func6, Try.ntmps6
    go_wp2_with fail
    go_ret
    exact ⟨rfl, Below.refl _ _⟩
  · have g1 : 567708407528440906 < X := by omega
    have g2 : ¬ X < 8646428874712260188 := by omega
    have g3 : ¬ X = 8646428874712260188 := by omega
    unfold CcLaw
    go_enter Try.func6, Try.ntmps6
    go_wp2_with fail
    go_ret
    exact ⟨rfl, Below.refl _ _⟩
theorem cc_in_pos (x r m n z d : Nat) (X Z K : Int) (h1 : Root x r) (q1 : floatBits .mul .f64 r r = some m) (q2 : floatBits .mul .f64 m r = some n) (q3 : floatBits .sub .f64 n x = some d) (q4 : floatBits .mul .f64 x 4391009636686233600 = some z)
    (hd : d < 2 ^ 64) (nx : nan x = false) (nd : nan d = false) (nz : nan z = false) (kx : key x = X) (kz : key z = Z) (kd : key d = K) (g1 : 567708407528440906 ≤ X) (g2 : X ≤ 8646428874712260188) (d1 : -Z ≤ K) (d2 : K ≤ Z) (w : World) : CcLaw x w := by
  have ka : key 567708407528440906 = 567708407528440906 := by decide
  have kb : key 8646428874712260188 = 8646428874712260188 := by decide
  have na : nan 567708407528440906 = false := by decide
  have nb : nan 8646428874712260188 = false := by decide
  obtain ⟨f3, e3⟩ := f_some q3
  obtain ⟨f4, e4⟩ := f_some q4
  have R1 := Lib.hid h1
  have Q1 := Lib.hid q1
  have Q2 := Lib.hid q2
  have kn : key (Op.negFloat .f64 d) = -K := by rw [key_neg hd, kd]
  have nn : nan (Op.negFloat .f64 d) = false := by rw [nan_neg hd]; exact nd
  have z0 : ¬ X < 0 := by omega
  clear h1 q1 q2 q3 q4 hd
  by_cases c1 : 567708407528440906 < X
  all_goals
    by_cases c2 : X < 8646428874712260188
    all_goals
      by_cases c3 : K < 0
      all_goals
        unfold CcLaw
        go_enter Try.func6, Try.ntmps6
        go_wp2_with (first | (go_at_call 8; refine (newF64 _ _).mono ?_; rintro e w' ⟨rfl, rfl⟩) | (go_at_call 10; refine (value _ _).mono ?_; rintro e w' ⟨rfl, rfl⟩) | (go_at_call 17; refine (hCbrt _ r R1.out _).mono ?_; rintro e w1 ⟨rfl, hb1⟩) | (go_at_call 9; refine (cubedIs r m n Q1.out Q2.out _).mono ?_; rintro e w2 ⟨rfl, hb2⟩))
        all_goals go_ret
        all_goals refine ⟨ret_bool (by simp <;> omega), ?_⟩
        all_goals repeat' (first | exact Below.refl _ _ | refine below_alloc ?_ _ | refine below_drewN ?_ _ | refine Below.drew ?_ | refine Below.setCell ?_ ?_ _ | refine below_step ?_ (by assumption) | (simp <;> omega))
theorem cc_in_neg (x a r m n z d : Nat) (X Z K : Int) (ha : Op.negFloat .f64 a = x) (h1 : Root a r) (q1 : floatBits .mul .f64 r r = some m) (q2 : floatBits .mul .f64 m r = some n) (q3 : floatBits .sub .f64 n a = some d) (q4 : floatBits .mul .f64 x 4391009636686233600 = some z)
    (hd : d < 2 ^ 64) (nx : nan x = false) (na' : nan a = false) (ka' : key a = -X) (nd : nan d = false) (nz : nan z = false) (kx : key x = X) (kz : key z = Z) (kd : key d = K) (g1 : 567708407528440906 ≤ X) (g2 : X ≤ 8646428874712260188) (d1 : -Z ≤ K) (d2 : K ≤ Z) (w : World) : CcLaw a w := by
  have ka : key 567708407528440906 = 567708407528440906 := by decide
  have kb : key 8646428874712260188 = 8646428874712260188 := by decide
  have na : nan 567708407528440906 = false := by decide
  have nb : nan 8646428874712260188 = false := by decide
  obtain ⟨f3, e3⟩ := f_some q3
  obtain ⟨f4, e4⟩ := f_some q4
  have R1 := Lib.hid h1
  have Q1 := Lib.hid q1
  have Q2 := Lib.hid q2
  have kn : key (Op.negFloat .f64 d) = -K := by rw [key_neg hd, kd]
  have nn : nan (Op.negFloat .f64 d) = false := by rw [nan_neg hd]; exact nd
  have z0 : -X < 0 := by omega
  clear h1 q1 q2 q3 q4 hd
  by_cases c1 : 567708407528440906 < X
  all_goals
    by_cases c2 : X < 8646428874712260188
    all_goals
      by_cases c3 : K < 0
      all_goals
        unfold CcLaw
        go_enter Try.func6, Try.ntmps6
        go_wp2_with (first | (go_at_call 8; refine (newF64 _ _).mono ?_; rintro e w' ⟨rfl, rfl⟩) | (go_at_call 10; refine (value _ _).mono ?_; rintro e w' ⟨rfl, rfl⟩) | (go_at_call 17; refine (hCbrt _ r R1.out _).mono ?_; rintro e w1 ⟨rfl, hb1⟩) | (go_at_call 9; refine (cubedIs r m n Q1.out Q2.out _).mono ?_; rintro e w2 ⟨rfl, hb2⟩))
        all_goals go_ret
        all_goals refine ⟨ret_bool (by simp <;> omega), ?_⟩
        all_goals repeat' (first | exact Below.refl _ _ | refine below_alloc ?_ _ | refine below_drewN ?_ _ | refine Below.drew ?_ | refine Below.setCell ?_ ?_ _ | refine below_step ?_ (by assumption) | (simp <;> omega))

theorem fnCbrtCubedReturnsInput.walk (a0 : Nat) (w0 : a0 < 2 ^ 64) (w : World) : Calls Try.prog 6 #[.float .f64 a0] w fun e w' => e = .returned (.bool true) ∧ Below w.heap.size w w' := by
  cases hn : nan a0
  · obtain ⟨x, hxe⟩ : ∃ x, x = rung a0 := ⟨_, rfl⟩
    have hxl : x < 2 ^ 63 := by rw [hxe]; exact rung_lt a0
    by_cases hr : 567708407528440906 ≤ x ∧ x ≤ 8646428874712260188
    · obtain ⟨r1, r2⟩ := hr
      have hxf : x < infR := by unfold infR; omega
      have hx0 : 0 < x := by omega
      have hlo : 2 ^ 177 ≤ mag x := by
        have h1 := mag_le r1
        have h2 : 2 ^ 177 ≤ mag 567708407528440906 := (in_normal (x := 567708407528440906) (e := 125) (by decide) (by decide)).lo
        omega
      obtain ⟨e, he⟩ : ∃ e, e = 1918 := ⟨_, rfl⟩
      have hhi : mag x ≤ 2 ^ (53 + e) := Nat.le_trans (mag_le r2) (in_normal (x := 8646428874712260188) (e := e) (by decide) (by rw [he])).hi
      obtain ⟨t, m, n, hcb, t0, tf, e1, e2, nf, f1, f2⟩ := cb_close hxf hlo (by omega) hhi
      obtain ⟨z, e4, zf, hm⟩ := scale48 hxf hlo
      obtain ⟨u1, u2⟩ := near_units hxf nf hm f1 f2
      have x64 : x < 2 ^ 64 := by omega
      have t64 : t < 2 ^ 64 := by unfold infR at tf; omega
      have n64 : n < 2 ^ 64 := by unfold infR at nf; omega
      have nz : nan z = false := not_nan (by rw [rung_self zf]; omega)
      have nx : nan x = false := not_nan (by rw [rung_self hxf]; omega)
      cases hs : neg a0
      · have e : a0 = x := by rw [hxe]; have := wd_self w0; rw [hs] at this; simpa [wd] using this.symm
        obtain ⟨d, e3, d64, nd, k1, k2⟩ := diff_in (c := n) (a := x) (z := z) (rung_fin nf) x64 (rung_fin hxf) zf u1 u2
        rw [e]
        exact cc_in_pos x t m n z d (x : Int) (z : Int) (key d) (fun w => cbrt_pos x t hx0 hxf hcb w) e1 e2 e3 e4 d64 nx nd nz (key_self hxf) (key_self zf) rfl (by omega) (by omega) k1 k2 w
      · have n1 := neg_word hxf
        have n2 := neg_word nf
        have e : a0 = Op.negFloat .f64 x := by
          have h1 := wd_self w0
          rw [hs, ← hxe] at h1
          rw [n1.1, ← h1]; rfl
        have q1 : floatBits .mul .f64 (Op.negFloat .f64 t) (Op.negFloat .f64 t) = some m := by rw [mul_neg_both t64 t64]; exact e1
        have q2 : floatBits .mul .f64 m (Op.negFloat .f64 t) = some (Op.negFloat .f64 n) := by rw [mul_neg_right t64, e2]; rfl
        obtain ⟨d, e3, d64, nd, k1, k2⟩ := diff_in (c := Op.negFloat .f64 n) (a := Op.negFloat .f64 x) (z := z) (by rw [n2.2.1]; exact nf) (negFloat_lt x64) (by rw [n1.2.1]; exact hxf) zf (by rw [n2.2.2.1, n1.2.2.1, ← val_self nf, ← val_self hxf]; omega) (by rw [n2.2.2.1, n1.2.2.1, ← val_self nf, ← val_self hxf]; omega)
        rw [e]
        exact cc_in_neg x (Op.negFloat .f64 x) (Op.negFloat .f64 t) m (Op.negFloat .f64 n) z d (x : Int) (z : Int) (key d) (negFloat_twice x64) (fun w => cbrt_neg x t hx0 hxf hcb w) q1 q2 e3 e4 d64 nx (by rw [nan_neg x64]; exact nx) n1.2.2.2 nd nz (key_self hxf) (key_self zf) rfl (by omega) (by omega) k1 k2 w
    · cases hs : neg a0
      · have hk : key a0 = (x : Int) := by unfold key; rw [hs, ← hxe]; simp
        exact cc_out_pos a0 hn (by omega) (by omega) w
      · have hk : key a0 = -(x : Int) := by unfold key; rw [hs, ← hxe]; simp
        by_cases h0 : x = 0
        · exact cc_out_pos a0 hn (by omega) (by omega) w
        · exact cc_out_neg a0 (x : Int) w0 hn hk (by omega) (by omega) w
  · exact cc_nan a0 hn w
end Go.Proofs.Ytehmgpceajbmkaa
