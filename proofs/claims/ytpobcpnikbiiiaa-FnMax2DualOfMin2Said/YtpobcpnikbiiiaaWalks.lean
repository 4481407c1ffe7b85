/- The walks of the laws of n011_195: each returns true and writes nothing that was there. -/
import Derived.Test.YtpobcpnikbiiiaaF64M
import Derived.OpenShut
import Derived.Deep.RegionHeld3
import Derived.Deep.DrawnRows
import Derived.Lib.Hide
import Derived.IntWalk
import Derived.Outline
import Derived.Test.YtpobcpnikbiiiaaK
namespace Go.Proofs.Ytpobcpnikbiiiaa
open Go.RowKit Go.Fl
set_option linter.unusedVariables false
set_option linter.unusedSimpArgs false
attribute [local go_sem ↓] Go.wp_at_zero Go.wp_at_succ

theorem fnMax2DualOfMin2.walk (a0 : Nat) (w0 : a0 < 2 ^ 64) (a1 : Nat) (w1 : a1 < 2 ^ 64) (w : World) : Calls Try.prog 3 #[.float .f64 a0, .float .f64 a1] w fun e w' => e = .returned (.bool true) ∧ Below w.heap.size w w' := by
  have l1 := maxW_lt w0 w1
  have l2 := maxW_lt w1 w0
  have l3 := negFloat_lt (minW_lt (negFloat_lt w0) (negFloat_lt w1))
  have s1 : sameB (maxW a0 a1) (maxW a1 a0) = true := by rw [maxW_comm w0 w1]; exact sameB_self _
  have s2 := sameB_of (maxW_dual w0 w1)
  go_enter Try.func3, Try.ntmps3
  go_wp2_with (first | (go_at_call 7; refine (max2 _ _ _).mono ?_; rintro e w' ⟨rfl, hb⟩) | (go_at_call 9; refine (min2 _ _ _).mono ?_; rintro e w' ⟨rfl, hb⟩) | (go_at_call 8; refine (sameF_true _ _ (by assumption) (by assumption) (by assumption) _).mono ?_; rintro e w' ⟨rfl, hb⟩))
  go_ret
  refine ⟨ret_bool (by simp), ?_⟩
  repeat' (first | exact Below.refl _ _ | refine below_alloc ?_ _ | refine below_drewN ?_ _ | refine Below.drew ?_ | refine below_step ?_ (by assumption))

theorem fnMax3DualOfMin3.walk (a0 : Nat) (w0 : a0 < 2 ^ 64) (a1 : Nat) (w1 : a1 < 2 ^ 64) (a2 : Nat) (w2 : a2 < 2 ^ 64) (w : World) : Calls Try.prog 4 #[.float .f64 a0, .float .f64 a1, .float .f64 a2] w fun e w' => e = .returned (.bool true) ∧ Below w.heap.size w w' := by
  have l1 := maxW_lt (maxW_lt w0 w1) w2
  have l3 := negFloat_lt (minW_lt (minW_lt (negFloat_lt w0) (negFloat_lt w1)) (negFloat_lt w2))
  have s2 := sameB_of (max3_dual w0 w1 w2)
  have HL := Lib.hid (@min3_le_max3 a0 a1 a2)
  cases n1 : nan (maxW (maxW a0 a1) a2)
  · cases n2 : nan (minW (minW a0 a1) a2)
    · have hk := HL.out n2 n1
      go_enter Try.func4, Try.ntmps4
      go_wp2_with (first | (go_at_call 10; refine (max3 _ _ _ _).mono ?_; rintro e w' ⟨rfl, hb⟩) | (go_at_call 11; refine (min3 _ _ _ _).mono ?_; rintro e w' ⟨rfl, hb⟩) | (go_at_call 8; refine (sameF_true _ _ (by assumption) (by assumption) (by assumption) _).mono ?_; rintro e w' ⟨rfl, hb⟩) | (go_at_call 12; refine (isNaN' _ _).mono ?_; rintro e w' ⟨rfl, rfl⟩))
      go_ret
      refine ⟨ret_bool (by simp; omega), ?_⟩
      repeat' (first | exact Below.refl _ _ | refine below_alloc ?_ _ | refine below_drewN ?_ _ | refine Below.drew ?_ | refine below_step ?_ (by assumption))
    · go_enter Try.func4, Try.ntmps4
      go_wp2_with (first | (go_at_call 10; refine (max3 _ _ _ _).mono ?_; rintro e w' ⟨rfl, hb⟩) | (go_at_call 11; refine (min3 _ _ _ _).mono ?_; rintro e w' ⟨rfl, hb⟩) | (go_at_call 8; refine (sameF_true _ _ (by assumption) (by assumption) (by assumption) _).mono ?_; rintro e w' ⟨rfl, hb⟩) | (go_at_call 12; refine (isNaN' _ _).mono ?_; rintro e w' ⟨rfl, rfl⟩))
      go_ret
      refine ⟨ret_bool (by simp), ?_⟩
      repeat' (first | exact Below.refl _ _ | refine below_alloc ?_ _ | refine below_drewN ?_ _ | refine Below.drew ?_ | refine below_step ?_ (by assumption))
  · go_enter Try.func4, Try.ntmps4
    go_wp2_with (first | (go_at_call 10; refine (max3 _ _ _ _).mono ?_; rintro e w' ⟨rfl, hb⟩) | (go_at_call 11; refine (min3 _ _ _ _).mono ?_; rintro e w' ⟨rfl, hb⟩) | (go_at_call 8; refine (sameF_true _ _ (by assumption) (by assumption) (by assumption) _).mono ?_; rintro e w' ⟨rfl, hb⟩) | (go_at_call 12; refine (isNaN' _ _).mono ?_; rintro e w' ⟨rfl, rfl⟩))
    go_ret
    refine ⟨ret_bool (by simp), ?_⟩
    repeat' (first | exact Below.refl _ _ | refine below_alloc ?_ _ | refine below_drewN ?_ _ | refine Below.drew ?_ | refine below_step ?_ (by assumption))

theorem fnMax2Exact.walk (a0 : Nat) (w0 : a0 < 2 ^ 64) (a1 : Nat) (w1 : a1 < 2 ^ 64) (w : World) : Calls Try.prog 5 #[.float .f64 a0, .float .f64 a1] w fun e w' => e = .returned (.bool true) ∧ Below w.heap.size w w' := by
  have ss := sameB_self a0
  have st := sameB_self a1
  rcases maxW_cases w0 w1 with ⟨⟨h1, h2⟩, hm⟩ | ⟨⟨h1, h2⟩, hm⟩ | ⟨h1, h2, h3, hm⟩ | ⟨h1, h2, h3, h4, h5⟩
  · clear w0 w1
    go_enter Try.func5, Try.ntmps5
    go_wp2_with (first | (go_at_call 7; refine (max2 _ _ _).mono ?_; rintro e w' ⟨rfl, hb⟩) | (go_at_call 13; refine (posInf _).mono ?_; rintro e w' ⟨rfl, hb⟩) | (go_at_call 12; refine (isNaN' _ _).mono ?_; rintro e w' ⟨rfl, rfl⟩) | (go_at_call 8; refine (sameF_true _ _ (by assumption) (by assumption) (by assumption) _).mono ?_; rintro e w' ⟨rfl, hb⟩) | (go_at_call 14; refine (negZero _ _).mono ?_; rintro e w' ⟨rfl, n, rfl⟩))
    all_goals go_ret
    all_goals refine ⟨ret_bool (by simp), ?_⟩
    all_goals repeat' (first | exact Below.refl _ _ | refine below_alloc ?_ _ | refine below_drewN ?_ _ | refine Below.drew ?_ | refine below_step ?_ (by assumption))
  · clear w0 w1
    cases n0 : nan a0
    · by_cases c0 : key a0 = 9218868437227405312
      all_goals
        go_enter Try.func5, Try.ntmps5
        go_wp2_with (first | (go_at_call 7; refine (max2 _ _ _).mono ?_; rintro e w' ⟨rfl, hb⟩) | (go_at_call 13; refine (posInf _).mono ?_; rintro e w' ⟨rfl, hb⟩) | (go_at_call 12; refine (isNaN' _ _).mono ?_; rintro e w' ⟨rfl, rfl⟩) | (go_at_call 8; refine (sameF_true _ _ (by assumption) (by assumption) (by assumption) _).mono ?_; rintro e w' ⟨rfl, hb⟩) | (go_at_call 14; refine (negZero _ _).mono ?_; rintro e w' ⟨rfl, n, rfl⟩))
        all_goals go_ret
        all_goals refine ⟨ret_bool (by simp), ?_⟩
        all_goals repeat' (first | exact Below.refl _ _ | refine below_alloc ?_ _ | refine below_drewN ?_ _ | refine Below.drew ?_ | refine below_step ?_ (by assumption))
    · skip
      go_enter Try.func5, Try.ntmps5
      go_wp2_with (first | (go_at_call 7; refine (max2 _ _ _).mono ?_; rintro e w' ⟨rfl, hb⟩) | (go_at_call 13; refine (posInf _).mono ?_; rintro e w' ⟨rfl, hb⟩) | (go_at_call 12; refine (isNaN' _ _).mono ?_; rintro e w' ⟨rfl, rfl⟩) | (go_at_call 8; refine (sameF_true _ _ (by assumption) (by assumption) (by assumption) _).mono ?_; rintro e w' ⟨rfl, hb⟩) | (go_at_call 14; refine (negZero _ _).mono ?_; rintro e w' ⟨rfl, n, rfl⟩))
      all_goals go_ret
      all_goals refine ⟨ret_bool (by simp), ?_⟩
      all_goals repeat' (first | exact Below.refl _ _ | refine below_alloc ?_ _ | refine below_drewN ?_ _ | refine Below.drew ?_ | refine below_step ?_ (by assumption))
  · have q0 : (!nan a0 && decide (key a0 = 9218868437227405312)) = false := by
      cases n0 : nan a0
      · have : ¬ key a0 = 9218868437227405312 := fun h => h1 ⟨n0, h⟩
        simp [this]
      · simp
    have q1 : (!nan a1 && decide (key a1 = 9218868437227405312)) = false := by
      cases n0 : nan a1
      · have : ¬ key a1 = 9218868437227405312 := fun h => h2 ⟨n0, h⟩
        simp [this]
      · simp
    clear w0 w1 h1 h2
    cases n0 : nan a0
    · cases n1 : nan a1
      · simp [n0, n1] at h3
      · clear h3
        simp only [n0, Bool.not_false, Bool.true_and, decide_eq_false_iff_not] at q0
        clear q1
        go_enter Try.func5, Try.ntmps5
        go_wp2_with (first | (go_at_call 7; refine (max2 _ _ _).mono ?_; rintro e w' ⟨rfl, hb⟩) | (go_at_call 13; refine (posInf _).mono ?_; rintro e w' ⟨rfl, hb⟩) | (go_at_call 12; refine (isNaN' _ _).mono ?_; rintro e w' ⟨rfl, rfl⟩) | (go_at_call 8; refine (sameF_true _ _ (by assumption) (by assumption) (by assumption) _).mono ?_; rintro e w' ⟨rfl, hb⟩) | (go_at_call 14; refine (negZero _ _).mono ?_; rintro e w' ⟨rfl, n, rfl⟩))
        all_goals go_ret
        all_goals refine ⟨ret_bool (by simp), ?_⟩
        all_goals repeat' (first | exact Below.refl _ _ | refine below_alloc ?_ _ | refine below_drewN ?_ _ | refine Below.drew ?_ | refine below_step ?_ (by assumption))
    · clear h3 q0
      cases n1 : nan a1
      · simp only [n1, Bool.not_false, Bool.true_and, decide_eq_false_iff_not] at q1
        go_enter Try.func5, Try.ntmps5
        go_wp2_with (first | (go_at_call 7; refine (max2 _ _ _).mono ?_; rintro e w' ⟨rfl, hb⟩) | (go_at_call 13; refine (posInf _).mono ?_; rintro e w' ⟨rfl, hb⟩) | (go_at_call 12; refine (isNaN' _ _).mono ?_; rintro e w' ⟨rfl, rfl⟩) | (go_at_call 8; refine (sameF_true _ _ (by assumption) (by assumption) (by assumption) _).mono ?_; rintro e w' ⟨rfl, hb⟩) | (go_at_call 14; refine (negZero _ _).mono ?_; rintro e w' ⟨rfl, n, rfl⟩))
        all_goals go_ret
        all_goals refine ⟨ret_bool (by simp), ?_⟩
        all_goals repeat' (first | exact Below.refl _ _ | refine below_alloc ?_ _ | refine below_drewN ?_ _ | refine Below.drew ?_ | refine below_step ?_ (by assumption))
      · clear q1
        go_enter Try.func5, Try.ntmps5
        go_wp2_with (first | (go_at_call 7; refine (max2 _ _ _).mono ?_; rintro e w' ⟨rfl, hb⟩) | (go_at_call 13; refine (posInf _).mono ?_; rintro e w' ⟨rfl, hb⟩) | (go_at_call 12; refine (isNaN' _ _).mono ?_; rintro e w' ⟨rfl, rfl⟩) | (go_at_call 8; refine (sameF_true _ _ (by assumption) (by assumption) (by assumption) _).mono ?_; rintro e w' ⟨rfl, hb⟩) | (go_at_call 14; refine (negZero _ _).mono ?_; rintro e w' ⟨rfl, n, rfl⟩))
        all_goals go_ret
        all_goals refine ⟨ret_bool (by simp), ?_⟩
        all_goals repeat' (first | exact Below.refl _ _ | refine below_alloc ?_ _ | refine below_drewN ?_ _ | refine Below.drew ?_ | refine below_step ?_ (by assumption))
  · have c0 : ¬ key a0 = 9218868437227405312 := by omega
    have c1 : ¬ key a1 = 9218868437227405312 := by omega
    rcases h5 with ⟨h5, hm⟩ | ⟨h5, hm⟩ | ⟨h5, h6, hm⟩ | ⟨h5, h6, hm⟩
    · skip
      go_enter Try.func5, Try.ntmps5
      go_wp2_with (first | (go_at_call 7; refine (max2 _ _ _).mono ?_; rintro e w' ⟨rfl, hb⟩) | (go_at_call 13; refine (posInf _).mono ?_; rintro e w' ⟨rfl, hb⟩) | (go_at_call 12; refine (isNaN' _ _).mono ?_; rintro e w' ⟨rfl, rfl⟩) | (go_at_call 8; refine (sameF_true _ _ (by assumption) (by assumption) (by assumption) _).mono ?_; rintro e w' ⟨rfl, hb⟩) | (go_at_call 14; refine (negZero _ _).mono ?_; rintro e w' ⟨rfl, n, rfl⟩))
      all_goals go_ret
      all_goals refine ⟨ret_bool (by simp), ?_⟩
      all_goals repeat' (first | exact Below.refl _ _ | refine below_alloc ?_ _ | refine below_drewN ?_ _ | refine Below.drew ?_ | refine below_step ?_ (by assumption))
    · skip
      go_enter Try.func5, Try.ntmps5
      go_wp2_with (first | (go_at_call 7; refine (max2 _ _ _).mono ?_; rintro e w' ⟨rfl, hb⟩) | (go_at_call 13; refine (posInf _).mono ?_; rintro e w' ⟨rfl, hb⟩) | (go_at_call 12; refine (isNaN' _ _).mono ?_; rintro e w' ⟨rfl, rfl⟩) | (go_at_call 8; refine (sameF_true _ _ (by assumption) (by assumption) (by assumption) _).mono ?_; rintro e w' ⟨rfl, hb⟩) | (go_at_call 14; refine (negZero _ _).mono ?_; rintro e w' ⟨rfl, n, rfl⟩))
      all_goals go_ret
      all_goals refine ⟨ret_bool (by simp), ?_⟩
      all_goals repeat' (first | exact Below.refl _ _ | refine below_alloc ?_ _ | refine below_drewN ?_ _ | refine Below.drew ?_ | refine below_step ?_ (by assumption))
    · subst h5
      go_enter Try.func5, Try.ntmps5
      go_wp2_with (first | (go_at_call 7; refine (max2 _ _ _).mono ?_; rintro e w' ⟨rfl, hb⟩) | (go_at_call 13; refine (posInf _).mono ?_; rintro e w' ⟨rfl, hb⟩) | (go_at_call 12; refine (isNaN' _ _).mono ?_; rintro e w' ⟨rfl, rfl⟩) | (go_at_call 8; refine (sameF_true _ _ (by assumption) (by assumption) (by assumption) _).mono ?_; rintro e w' ⟨rfl, hb⟩) | (go_at_call 14; refine (negZero _ _).mono ?_; rintro e w' ⟨rfl, n, rfl⟩))
      all_goals go_ret
      all_goals refine ⟨ret_bool (by simp), ?_⟩
      all_goals repeat' (first | exact Below.refl _ _ | refine below_alloc ?_ _ | refine below_drewN ?_ _ | refine Below.drew ?_ | refine below_step ?_ (by assumption))
    · have z0 : negZ a0 = neg a0 := by simp [negZ, h1, h5]
      have z1 : negZ a1 = neg a1 := by simp [negZ, h2, h6]
      cases s0 : neg a0 <;> cases s1 : neg a1 <;> rw [s0] at hm z0 <;> rw [s1] at z1 <;> simp only [if_true, if_false, Bool.false_eq_true] at hm
      all_goals
        go_enter Try.func5, Try.ntmps5
        go_wp2_with (first | (go_at_call 7; refine (max2 _ _ _).mono ?_; rintro e w' ⟨rfl, hb⟩) | (go_at_call 13; refine (posInf _).mono ?_; rintro e w' ⟨rfl, hb⟩) | (go_at_call 12; refine (isNaN' _ _).mono ?_; rintro e w' ⟨rfl, rfl⟩) | (go_at_call 8; refine (sameF_true _ _ (by assumption) (by assumption) (by assumption) _).mono ?_; rintro e w' ⟨rfl, hb⟩) | (go_at_call 14; refine (negZero _ _).mono ?_; rintro e w' ⟨rfl, n, rfl⟩))
        all_goals go_ret
        all_goals refine ⟨ret_bool (by simp), ?_⟩
        all_goals repeat' (first | exact Below.refl _ _ | refine below_alloc ?_ _ | refine below_drewN ?_ _ | refine Below.drew ?_ | refine below_step ?_ (by assumption))

set_option maxHeartbeats 2000000 in
theorem fnMax3Exact.walk (a0 : Nat) (w0 : a0 < 2 ^ 64) (a1 : Nat) (w1 : a1 < 2 ^ 64) (a2 : Nat) (w2 : a2 < 2 ^ 64) (w : World) : Calls Try.prog 6 #[.float .f64 a0, .float .f64 a1, .float .f64 a2] w fun e w' => e = .returned (.bool true) ∧ Below w.heap.size w w' := by
  rcases max3_cases w0 w1 w2 with ⟨h1, hm⟩ | ⟨h1, h2, h3, h4, hm⟩ | ⟨n0, n1, n2, b0, b1, b2, h1, h2, h3, h4, h5, h6⟩
  · clear w0 w1 w2
    cases p0 : (!nan a0 && decide (key a0 = 9218868437227405312)) <;> cases p1 : (!nan a1 && decide (key a1 = 9218868437227405312)) <;> cases p2 : (!nan a2 && decide (key a2 = 9218868437227405312)) <;> rw [p0, p1, p2] at h1 <;> first | (exfalso; revert h1; decide; done) | skip
    all_goals
      clear h1
      go_enter Try.func6, Try.ntmps6
      go_wp2_with (first | (go_at_call 10; refine (max3 _ _ _ _).mono ?_; rintro e w' ⟨rfl, hb⟩) | (go_at_call 13; refine (posInf _).mono ?_; rintro e w' ⟨rfl, hb⟩) | (go_at_call 12; refine (isNaN' _ _).mono ?_; rintro e w' ⟨rfl, rfl⟩) | (go_at_call 14; refine (negZero _ _).mono ?_; rintro e w' ⟨rfl, n, rfl⟩) | (go_at_call 15; refine (posZero _ _).mono ?_; rintro e w' ⟨rfl, n, rfl⟩))
      all_goals go_ret
      all_goals refine ⟨ret_bool (by simp), ?_⟩
      all_goals repeat' (first | exact Below.refl _ _ | refine below_alloc ?_ _ | refine below_drewN ?_ _ | refine Below.drew ?_ | refine below_step ?_ (by assumption))
  · clear w0 w1 w2
    cases n0 : nan a0 <;> cases n1 : nan a1 <;> cases n2 : nan a2 <;> rw [n0, n1, n2] at h4 <;> first | (exfalso; revert h4; decide; done) | skip
    all_goals
      clear h4
      simp only [n0, n1, n2, Bool.not_false, Bool.not_true, Bool.true_and, Bool.false_and, decide_eq_false_iff_not] at h1 h2 h3
      go_enter Try.func6, Try.ntmps6
      go_wp2_with (first | (go_at_call 10; refine (max3 _ _ _ _).mono ?_; rintro e w' ⟨rfl, hb⟩) | (go_at_call 13; refine (posInf _).mono ?_; rintro e w' ⟨rfl, hb⟩) | (go_at_call 12; refine (isNaN' _ _).mono ?_; rintro e w' ⟨rfl, rfl⟩) | (go_at_call 14; refine (negZero _ _).mono ?_; rintro e w' ⟨rfl, n, rfl⟩) | (go_at_call 15; refine (posZero _ _).mono ?_; rintro e w' ⟨rfl, n, rfl⟩))
      all_goals go_ret
      all_goals refine ⟨ret_bool (by simp), ?_⟩
      all_goals repeat' (first | exact Below.refl _ _ | refine below_alloc ?_ _ | refine below_drewN ?_ _ | refine Below.drew ?_ | refine below_step ?_ (by assumption))
  · have c0 : ¬ key a0 = 9218868437227405312 := by omega
    have c1 : ¬ key a1 = 9218868437227405312 := by omega
    have c2 : ¬ key a2 = 9218868437227405312 := by omega
    obtain ⟨g, hg⟩ : ∃ g, maxW (maxW a0 a1) a2 = g := ⟨_, rfl⟩
    rw [hg] at h1 h2 h3 h4 h5 h6
    have d0 : (decide (key a0 < key g) || decide (key g = key a0)) = true := by simp; omega
    have d1 : (decide (key a1 < key g) || decide (key g = key a1)) = true := by simp; omega
    have d2 : (decide (key a2 < key g) || decide (key g = key a2)) = true := by simp; omega
    have hz : key g = 0 → negZ g = !(posZ a0 || posZ a1 || posZ a2) := by
      intro h; rw [← h6 h]; simp [negZ, posZ, h1, h]
    clear h6 w0 w1 w2 b0 b1 b2 h2 h3 h4
    have e5 : decide (key g = key a0) = true ∨ (decide (key g = key a0) = false ∧ decide (key a0 < key g) = true ∧ decide (key g = key a1) = true) ∨ (decide (key g = key a0) = false ∧ decide (key a0 < key g) = true ∧ decide (key g = key a1) = false ∧ decide (key a1 < key g) = true ∧ decide (key g = key a2) = true) := by
      simp only [Bool.or_eq_true, decide_eq_true_eq, decide_eq_false_iff_not] at d0 d1 d2 ⊢; omega
    clear h5
    by_cases hz0 : key g = 0
    · have HZ := Lib.hid (hz hz0)
      have z0 : decide (key g = 0) = true := by simpa using hz0
      have HZ0 := Lib.hid hz0
      clear hz hz0
      rcases e5 with e1 | ⟨e1, l1, e2⟩ | ⟨e1, l1, e2, l2, e3⟩
      all_goals
        cases p0 : posZ a0 <;> cases p1 : posZ a1 <;> cases p2 : posZ a2
        all_goals
          have nz := HZ.out
          rw [p0, p1, p2] at nz
          simp only [Bool.or_false, Bool.or_true, Bool.false_or, Bool.true_or, Bool.not_true, Bool.not_false] at nz
          go_enter Try.func6, Try.ntmps6
          go_wp2_with (first | (go_at_call 10; refine (max3 _ _ _ _).mono ?_; rintro e w' ⟨rfl, hb⟩) | (go_at_call 13; refine (posInf _).mono ?_; rintro e w' ⟨rfl, hb⟩) | (go_at_call 12; refine (isNaN' _ _).mono ?_; rintro e w' ⟨rfl, rfl⟩) | (go_at_call 14; refine (negZero _ _).mono ?_; rintro e w' ⟨rfl, n, rfl⟩) | (go_at_call 15; refine (posZero _ _).mono ?_; rintro e w' ⟨rfl, n, rfl⟩))
          all_goals go_ret
          all_goals refine ⟨ret_bool (by simp), ?_⟩
          all_goals repeat' (first | exact Below.refl _ _ | refine below_alloc ?_ _ | refine below_drewN ?_ _ | refine Below.drew ?_ | refine below_step ?_ (by assumption))
    · clear hz
      rcases e5 with e1 | ⟨e1, l1, e2⟩ | ⟨e1, l1, e2, l2, e3⟩
      all_goals
        go_enter Try.func6, Try.ntmps6
        go_wp2_with (first | (go_at_call 10; refine (max3 _ _ _ _).mono ?_; rintro e w' ⟨rfl, hb⟩) | (go_at_call 13; refine (posInf _).mono ?_; rintro e w' ⟨rfl, hb⟩) | (go_at_call 12; refine (isNaN' _ _).mono ?_; rintro e w' ⟨rfl, rfl⟩) | (go_at_call 14; refine (negZero _ _).mono ?_; rintro e w' ⟨rfl, n, rfl⟩) | (go_at_call 15; refine (posZero _ _).mono ?_; rintro e w' ⟨rfl, n, rfl⟩))
        all_goals go_ret
        all_goals refine ⟨ret_bool (by simp), ?_⟩
        all_goals repeat' (first | exact Below.refl _ _ | refine below_alloc ?_ _ | refine below_drewN ?_ _ | refine Below.drew ?_ | refine below_step ?_ (by assumption))

end Go.Proofs.Ytpobcpnikbiiiaa
