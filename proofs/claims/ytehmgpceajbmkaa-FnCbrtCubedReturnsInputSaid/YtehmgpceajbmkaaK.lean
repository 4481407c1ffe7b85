/- Contracts and walks of n011_21: cubes, squares, square roots. -/
import Derived.Test.YtehmgpceajbmkaaF64M
import Derived.OpenShut
import Derived.Deep.RegionHeld3
import Derived.Deep.DrawnRows
import Derived.Lib.Hide
import Derived.IntWalk
import Derived.Outline
import Derived.Test.YtehmgpceajbmkaaF64P
import Derived.Laws.Externs
import Derived.Deep.LoopGhost
namespace Go.Proofs.Ytehmgpceajbmkaa
open Go.RowKit Go.Fl
set_option linter.unusedVariables false
set_option linter.unusedSimpArgs false
attribute [local go_sem ↓] Go.wp_at_zero Go.wp_at_succ

theorem isNaN' (x : Nat) (w : World) : Calls Try.prog 11 #[.float .f64 x] w fun e w' => e = .returned (.bool (nan x)) ∧ w = w' := by
  cases h : nan x
  all_goals
    go_enter Try.func11, Try.ntmps11
    go_wp2
    go_ret
    exact ⟨rfl, rfl⟩

theorem signNeg (x : Nat) (hn : nan x = false) (w : World) : Calls Try.prog 13 #[.float .f64 x] w fun e w' => e = .returned (.bool (neg x)) ∧ ∃ n, w' = w.drewN n := by
  rcases (show key x < 0 ∨ key x = 0 ∨ 0 < key x by omega) with h | h | h
  · have hs : neg x = true := by unfold key at h; cases hh : neg x <;> rw [hh] at h <;> simp at h ⊢; omega
    rw [hs]
    clear hs
    go_enter Try.func13, Try.ntmps13
    go_wp2
    go_ret
    exact ⟨rfl, 0, rfl⟩
  · have hi := fun w => inv_zero w h
    cases hh : neg x
    all_goals
      rw [hh] at hi
      simp only [if_true, if_false, Bool.false_eq_true] at hi
      go_enter Try.func13, Try.ntmps13
      go_wp2
      go_ret
      exact ⟨rfl, _, rfl⟩
  · have hs : neg x = false := by unfold key at h; cases hh : neg x <;> rw [hh] at h <;> simp at h ⊢; omega
    have hz : ¬ key x = 0 := by omega
    rw [hs]
    clear hs
    go_enter Try.func13, Try.ntmps13
    go_wp2
    go_ret
    exact ⟨ret_bool (by simp <;> omega), 0, rfl⟩

theorem sameF (x y : Nat) (hx : x < 2 ^ 64) (hy : y < 2 ^ 64) (w : World) : Calls Try.prog 12 #[.float .f64 x, .float .f64 y] w fun e w' => e = .returned (.bool (sameB x y)) ∧ Below w.heap.size w w' := by
  cases h1 : nan x
  · cases h2 : nan y
    · by_cases hk : key x = key y
      · by_cases h0 : key x = 0
        · have h0' : key y = 0 := by omega
          have HS : sameB x y = (neg x == neg y) := by
            rw [Bool.eq_iff_iff]
            simp only [sameB, h1, h2, Bool.and_self, Bool.false_or, decide_eq_true_eq, beq_iff_eq]
            exact ⟨fun e => by rw [e], fun e => word_ext hx hy e (by rw [(key_zero_iff x).1 h0, (key_zero_iff y).1 h0'])⟩
          rw [HS]
          clear HS hk hx hy
          go_enter Try.func12, Try.ntmps12
          go_wp2_with (first | (go_at_call 11; refine (isNaN' _ _).mono ?_; rintro e w' ⟨rfl, rfl⟩) | (go_at_call 13; refine (signNeg _ (by assumption) _).mono ?_; rintro e w' ⟨rfl, n, rfl⟩))
          go_ret
          refine ⟨ret_bool (by simp), ?_⟩
          repeat' (first | exact Below.refl _ _ | refine below_alloc ?_ _ | refine below_drewN ?_ _ | refine Below.drew ?_ | refine below_step ?_ (by assumption))
        · have e := key_inj hx hy hk h0
          subst e
          rw [sameB_self]
          clear hk hx hy
          go_enter Try.func12, Try.ntmps12
          go_wp2_with (first | (go_at_call 11; refine (isNaN' _ _).mono ?_; rintro e w' ⟨rfl, rfl⟩) | (go_at_call 13; refine (signNeg _ (by assumption) _).mono ?_; rintro e w' ⟨rfl, n, rfl⟩))
          go_ret
          exact ⟨rfl, Below.refl _ _⟩
      · have HS : sameB x y = false := by simp [sameB, h1]; intro e; rw [e] at hk; exact hk rfl
        rw [HS]
        clear hx hy HS
        go_enter Try.func12, Try.ntmps12
        go_wp2_with (first | (go_at_call 11; refine (isNaN' _ _).mono ?_; rintro e w' ⟨rfl, rfl⟩) | (go_at_call 13; refine (signNeg _ (by assumption) _).mono ?_; rintro e w' ⟨rfl, n, rfl⟩))
        go_ret
        exact ⟨rfl, Below.refl _ _⟩
    · have HS : sameB x y = false := by simp [sameB, h1]; intro e; rw [e, h2] at h1; cases h1
      rw [HS]
      clear hx hy HS
      go_enter Try.func12, Try.ntmps12
      go_wp2_with (first | (go_at_call 11; refine (isNaN' _ _).mono ?_; rintro e w' ⟨rfl, rfl⟩) | (go_at_call 13; refine (signNeg _ (by assumption) _).mono ?_; rintro e w' ⟨rfl, n, rfl⟩))
      go_ret
      exact ⟨rfl, Below.refl _ _⟩
  · have HS : sameB x y = nan y := by
      cases h2 : nan y
      · simp [sameB, h2]; intro e; rw [e, h2] at h1; cases h1
      · simp [sameB, h1, h2]
    rw [HS]
    clear hx hy HS
    go_enter Try.func12, Try.ntmps12
    go_wp2_with (first | (go_at_call 11; refine (isNaN' _ _).mono ?_; rintro e w' ⟨rfl, rfl⟩) | (go_at_call 13; refine (signNeg _ (by assumption) _).mono ?_; rintro e w' ⟨rfl, n, rfl⟩))
    go_ret
    exact ⟨rfl, Below.refl _ _⟩

theorem sameF_true (x y : Nat) (hx : x < 2 ^ 64) (hy : y < 2 ^ 64) (h : sameB x y = true) (w : World) : Calls Try.prog 12 #[.float .f64 x, .float .f64 y] w fun e w' => e = .returned (.bool true) ∧ Below w.heap.size w w' :=
  (sameF x y hx hy w).mono fun e w' k => by rw [← h]; exact k

def CubeGives (x : Nat) (w : World) (e : Ending) (w' : World) : Prop := ∃ r1 r, FR .mul x x r1 ∧ FR .mul r1 x r ∧ e = .returned (.agg #[.float .f64 r]) ∧ Below w.heap.size w w'
/-- A product's world, written out: the two operands' boxes, the result's, and NewF64's own. -/
def mulWorld (x y r n : Nat) (w : World) : World := ((((w.alloc (.cells #[.float .f64 x] 24)).alloc (.cells #[.float .f64 y] 24)).alloc (.cells #[.float .f64 r] 24)).alloc (.cells #[.float .f64 r] 24)).drewN n
def MulGives (x y : Nat) (w : World) (e : Ending) (w' : World) : Prop := ∃ r n, FR .mul x y r ∧ e = .returned (.agg #[.float .f64 r]) ∧ w' = ((((w.alloc (.cells #[.float .f64 x] 24)).alloc (.cells #[.float .f64 y] 24)).alloc (.cells #[.float .f64 r] 24)).alloc (.cells #[.float .f64 r] 24)).drewN n
theorem fold_store (A : World) (v u : Value) (n : Nat) (k : Nat) (hk : k = A.heap.size) (o : Obj) : (((A.alloc (.cells #[v] 24)).drewN n).setCell ⟨k, 0, none⟩ u).alloc o = ((A.alloc (.cells #[u] 24)).alloc o).drewN n := by
  have e : ((A.alloc (.cells #[v] 24)).drewN n).setCell ⟨k, 0, none⟩ u = ((A.alloc (.cells #[v] 24)).setCell ⟨k, 0, none⟩ u).drewN n := rfl
  rw [e, World.setCell_alloc_at _ _ _ _ _ hk]
  rfl
theorem mulX (x y : Nat) (w : World) : Calls Try.prog 18 #[.agg #[.float .f64 x], .agg #[.float .f64 y]] w (MulGives x y w) := by
  go_enter Try.func18, Try.ntmps18
  go_wp2_with (go_at_call 8; refine (newF64 _ _).mono ?_; rintro e w' ⟨rfl, rfl⟩)
  refine bodyPost_ret (v := .agg #[.float .f64 _]) (by simp [results, Try.results18, go_sem] <;> rfl) rfl ⟨_, fdr .mul x y, fop_FR .mul _ _ _, rfl, ?_⟩
  exact fold_store _ _ _ _ _ (by simp) _
theorem hSquared (x : Nat) (w : World) : Calls Try.prog 15 #[.agg #[.float .f64 x]] w (Gives .mul x x w) := by
  go_enter Try.func15, Try.ntmps15
  go_wp2_with (go_at_call 18; refine (mulX _ _ _).mono ?_; rintro e w' ⟨r, n, hr, rfl, rfl⟩)
  refine bodyPost_ret (v := .agg #[.float .f64 r]) (by simp [results, Try.results15, go_sem]) rfl ⟨r, hr, rfl, ?_⟩
  repeat' (first | exact Below.refl _ _ | refine Below.alloc ?_ ?_ _ | refine Below.setCell ?_ ?_ _ | refine below_drewN ?_ _ | refine Below.drew ?_ | (simp <;> omega) | omega)
set_option maxHeartbeats 2000000 in
theorem hCubed (x : Nat) (w : World) : Calls Try.prog 9 #[.agg #[.float .f64 x]] w (CubeGives x w) := by
  have h0 : ∀ W, Below (w.heap.size + 1) (w.alloc (.cells #[.float .f64 x] 24)) W → W.cell? ⟨w.heap.size, 0, none⟩ = some (.float .f64 x) := fun W hb => (hb.cell (by simp)).trans (cell_at _ _ _ _ rfl)
  go_enter Try.func9, Try.ntmps9
  go_wp2
  go_region_held3 (fun w' => w'.cell? ⟨w.heap.size, 0, none⟩ = some (.float .f64 x))
    (first | exact h0 _ (by repeat' (first | exact Below.refl _ _ | refine Below.alloc ?_ ?_ _ | refine below_drewN ?_ _ | refine Below.drew ?_ | refine Below.setCell ?_ ?_ _ | (simp <;> omega))) | go_keep)
    (first | (go_at_call 18; refine (mulX _ _ _).mono ?_; rintro e w' ⟨r, n, hr, rfl, rfl⟩))
  go_wp2
  refine bodyPost_ret (v := .agg #[.float .f64 r]) (by simp [results, Try.results9, go_sem]) rfl ⟨_, r, ‹FR .mul x x _›, hr, rfl, ?_⟩
  repeat' (first | exact Below.refl _ _ | refine Below.alloc ?_ ?_ _ | refine Below.setCell ?_ ?_ _ | refine below_drewN ?_ _ | refine Below.drew ?_ | (simp <;> omega) | omega)

def PowGives (k : Int) (w : World) (e : Ending) (w' : World) : Prop := ∃ p n, Is p false 1 k ∧ e = .returned (.float .f64 p) ∧ w' = w.drewN n
theorem pow2_nonneg (k : Int) (h0 : 0 ≤ k) (h1 : k ≤ 900) (w : World) : Calls Try.prog 14 #[.int .i64 k] w (PowGives k w) := by
  go_enter Try.func14, Try.ntmps14
  go_wp2
  go_loopw [0, 3] (fun a b wr => ∃ (i : Int) (p n : Nat), 0 ≤ i ∧ i ≤ k ∧ a = .int .i64 i ∧ b = .float .f64 p ∧ Is p false 1 (k - i) ∧ wr = w.drewN n) (fun a _ _ => (intOf a).toNat)
  case atStart => exact ⟨k, _, 0, h0, Int.le_refl _, rfl, rfl, by rw [Int.sub_self]; exact one_is1, rfl⟩
  case round =>
    obtain ⟨i, p, n, hi0, hik, rfl, rfl, hp, rfl⟩ := hrel
    by_cases hlt : 0 < i
    · have hd := fun w => pow_double hp (by omega) w
      replace hd := Lib.hid hd
      go_wp2
      go_roundw
      case rel => exact ⟨i - 1, _, _, by omega, by omega, rfl, rfl, by have := hd.out (w.drewN n); rw [show k - (i - 1) = k - i + 1 by omega]; exact this, rfl⟩
      case measure => simp [intOf]; omega
    · go_wp2
      refine wp_loop_once ?_
      go_wp2
      go_ret
      exact ⟨p, n, by rw [show k = k - i by omega]; exact hp, rfl, rfl⟩

theorem pow2_neg (k : Int) (h0 : k < 0) (h1 : -900 ≤ k) (w : World) : Calls Try.prog 14 #[.int .i64 k] w (PowGives k w) := by
  go_enter Try.func14, Try.ntmps14
  go_wp2
  refine wp_loop_once ?_
  go_wp2
  go_loopw [0, 3] (fun a b wr => ∃ (i : Int) (p n : Nat), k ≤ i ∧ i ≤ 0 ∧ a = .int .i64 i ∧ b = .float .f64 p ∧ Is p false 1 (k - i) ∧ wr = w.drewN n) (fun a _ _ => (-(intOf a)).toNat)
  case atStart => exact ⟨k, _, 0, Int.le_refl _, by omega, rfl, rfl, by rw [Int.sub_self]; exact one_is1, rfl⟩
  case round =>
    obtain ⟨i, p, n, hi0, hik, rfl, rfl, hp, rfl⟩ := hrel
    by_cases hlt : i < 0
    · have hd := fun w => pow_halve hp (by omega) (by omega) w
      replace hd := Lib.hid hd
      go_wp2
      go_roundw
      case rel => exact ⟨i + 1, _, _, by omega, by omega, rfl, rfl, by have := hd.out (w.drewN n); rw [show k - (i + 1) = k - i - 1 by omega]; exact this, rfl⟩
      case measure => simp [intOf]; omega
    · go_wp2
      go_ret
      exact ⟨p, n, by rw [show k = k - i by omega]; exact hp, rfl, rfl⟩
theorem pow2_any (k : Int) (h0 : -900 ≤ k) (h1 : k ≤ 900) (w : World) : Calls Try.prog 14 #[.int .i64 k] w (PowGives k w) := by
  by_cases h : 0 ≤ k
  · exact pow2_nonneg k h h1 w
  · exact pow2_neg k (by omega) h0 w
theorem sqrt_run {x z : Nat} (h : Ieee.double.sqrt x = some z) (w : World) : (callFunc 21 #[.float .f64 x]).run Try.prog w = .ok (.value (.float .f64 z)) w := by
  rw [run_callFunc_extern (fn := Try.f21) (e := Extern.MathSqrt.sqrt) Try.func21 (by kernel_rfl) (by kernel_rfl) (by kernel_rfl) (by kernel_rfl)]
  have e : Extern.MathSqrt.sqrt #[.float .f64 x] = (match Ieee.double.sqrt x with
    | some r => pure (.float .f64 r)
    | none => do pure (.float .f64 (← choose (.nanBits .f64 x x)))) := rfl
  rw [e, h]
  rfl
theorem hSqrt {x z : Nat} (h : Ieee.double.sqrt x = some z) (w : World) : Calls Try.prog 16 #[.agg #[.float .f64 x]] w (GivesJust z w) := by
  have hr := sqrt_run h
  go_enter Try.func16, Try.ntmps16
  go_wp2_with (first | (go_at_call 8; refine (newF64 _ _).mono ?_; rintro e w' ⟨rfl, rfl⟩) | (go_at_call 19; go_in))
  refine bodyPost_ret (v := .agg #[.float .f64 z]) (by simp [results, Try.results16, go_sem]) rfl ⟨rfl, ?_⟩
  repeat' (first | exact Below.refl _ _ | refine Below.alloc ?_ ?_ _ | refine Below.setCell ?_ ?_ _ | refine below_drewN ?_ _ | refine Below.drew ?_ | (simp <;> omega) | omega)

theorem fnCubedIsOddAndKeepsSign.walk (a0 : Nat) (w0 : a0 < 2 ^ 64) (w : World) : Calls Try.prog 3 #[.float .f64 a0] w fun e w' => e = .returned (.bool true) ∧ Below w.heap.size w w' := by
  have tok : True := trivial
  have hl := negFloat_lt w0
  have nn := nan_neg w0
  cases hn : nan a0
  · go_enter Try.func3, Try.ntmps3
    go_wp2_with (first | (go_at_call 8; refine (newF64 _ _).mono ?_; rintro e w' ⟨rfl, rfl⟩) | (go_at_call 9; have _t := tok; refine (hCubed _ _).mono ?_; rintro e w' ⟨r1, r, h1, h2, rfl, hb⟩; clear tok) | (go_at_call 9; refine (hCubed _ _).mono ?_; rintro e w' ⟨s1, s, k1, k2, rfl, hb⟩; obtain ⟨e1, e2, e3⟩ := cubes w0 hn h1 h2 k1 k2; subst e1; have lr := h2.lt; have ln := negFloat_lt lr; have ss := sameB_self (Op.negFloat .f64 r)) | (go_at_call 10; refine (value _ _).mono ?_; rintro e w' ⟨rfl, rfl⟩) | (go_at_call 11; refine (isNaN' _ _).mono ?_; rintro e w' ⟨rfl, rfl⟩) | (go_at_call 13; refine (signNeg _ (by assumption) _).mono ?_; rintro e w' ⟨rfl, n, rfl⟩) | (go_at_call 12; refine (sameF_true _ _ (by assumption) (by assumption) (by assumption) _).mono ?_; rintro e w' ⟨rfl, hb⟩))
    go_ret
    refine ⟨ret_bool (by simp [*]), ?_⟩
    repeat' (first | exact Below.refl _ _ | refine below_alloc ?_ _ | refine below_drewN ?_ _ | refine Below.drew ?_ | refine below_step ?_ (by assumption))
  · rw [hn] at nn
    go_enter Try.func3, Try.ntmps3
    go_wp2_with (first | (go_at_call 8; refine (newF64 _ _).mono ?_; rintro e w' ⟨rfl, rfl⟩) | (go_at_call 9; have _t := tok; refine (hCubed _ _).mono ?_; rintro e w' ⟨r1, r, h1, h2, rfl, hb⟩; clear tok) | (go_at_call 9; refine (hCubed _ _).mono ?_; rintro e w' ⟨s1, s, k1, k2, rfl, hb⟩; have e1 := cube_nan hn h2; have e2 := cube_nan nn k2) | (go_at_call 10; refine (value _ _).mono ?_; rintro e w' ⟨rfl, rfl⟩) | (go_at_call 11; refine (isNaN' _ _).mono ?_; rintro e w' ⟨rfl, rfl⟩) | (go_at_call 13; refine (signNeg _ (by assumption) _).mono ?_; rintro e w' ⟨rfl, n, rfl⟩))
    go_ret
    refine ⟨ret_bool (by simp [*]), ?_⟩
    repeat' (first | exact Below.refl _ _ | refine below_alloc ?_ _ | refine below_drewN ?_ _ | refine Below.drew ?_ | refine below_step ?_ (by assumption))

theorem is_prod {n : Int} {p : Nat} {k : Int} (hn : n.natAbs ≤ 2 ^ 53) (hp : Is p false 1 k) (h1 : k ≤ 900) : ∃ x, (∀ w, fop .mul w (floatOfInt .f64 n) p = x) ∧ Is x (decide (n < 0)) n.natAbs k := by
  have := hp.place
  obtain ⟨x, hx, ix⟩ := (is_int n hn).mul hp (by rw [Nat.mul_one]; exact hn) (by omega) (by omega)
  refine ⟨x, fun w => (fop_FR .mul w _ _).of_some hx, ?_⟩
  rw [Bool.xor_false, Nat.mul_one, Int.zero_add] at ix
  exact ix
theorem square_same {n k : Int} {x r y : Nat} (hn : n.natAbs ≤ 2 ^ 26) (k1 : -450 ≤ k) (k2 : k ≤ 450) (ix : Is x (decide (n < 0)) n.natAbs k) (hr : FR .mul x x r) (iy : Is y (decide (n * n < 0)) (n * n).natAbs (2 * k)) : sameB r y = true ∧ y < 2 ^ 64 := by
  have hb : n.natAbs * n.natAbs ≤ 2 ^ 53 := Nat.le_trans (Nat.mul_le_mul hn hn) (by decide)
  obtain ⟨z, hz, iz⟩ := ix.mul ix hb (by omega) (by omega)
  rw [hr.of_some hz]
  have hs : decide (n * n < 0) = false := by
    rw [decide_eq_false_iff_not]
    have : 0 ≤ n * n := by
      rcases Int.le_total 0 n with h | h
      · exact Int.mul_nonneg h h
      · exact Int.mul_nonneg_of_nonpos_of_nonpos h h
    omega
  rw [hs, Int.natAbs_mul] at iy
  rw [Bool.xor_self] at iz
  have e := iz.uniq iy (by rw [show k + k = 2 * k by omega])
  rw [e]
  exact ⟨sameB_self y, iy.lt⟩
theorem sq_natAbs {n : Int} (hn : n.natAbs ≤ 2 ^ 26) : (n * n).natAbs ≤ 2 ^ 52 := by
  rw [Int.natAbs_mul]
  exact Nat.le_trans (Nat.mul_le_mul hn hn) (by decide)

theorem fnSquaredOfScaledIntegerIsExact.walk (a0 : Int) (w0 : (Lit.int .i64 a0).wf = true) (a1 : Int) (w1 : (Lit.int .i64 a1).wf = true) (w : World) : Calls Try.prog 4 #[.int .i64 a0, .int .i64 a1] w fun e w' => e = .returned (.bool true) ∧ Below w.heap.size w w' := by
  clear w0 w1
  by_cases c0 : a0 < -67108864
  · go_enter Try.func4, Try.ntmps4
    go_wp2
    go_ret
    exact ⟨rfl, Below.refl _ _⟩
  by_cases c1 : 67108864 < a0
  · go_enter Try.func4, Try.ntmps4
    go_wp2
    go_ret
    exact ⟨rfl, Below.refl _ _⟩
  by_cases c2 : a1 < -200
  · go_enter Try.func4, Try.ntmps4
    go_wp2
    go_ret
    exact ⟨rfl, Below.refl _ _⟩
  by_cases c3 : 200 < a1
  · go_enter Try.func4, Try.ntmps4
    go_wp2
    go_ret
    exact ⟨rfl, Below.refl _ _⟩
  have tok : True := trivial
  have hn : a0.natAbs ≤ 2 ^ 26 := by omega
  have hs := sq_natAbs hn
  have hw : IntKind.i64.wrap (a0 * a0) = a0 * a0 := IntWalk.i64_in _ (by omega)
  go_enter Try.func4, Try.ntmps4
  go_wp2_with (first | (go_at_call 8; refine (newF64 _ _).mono ?_; rintro e w' ⟨rfl, rfl⟩) | (go_at_call 10; refine (value _ _).mono ?_; rintro e w' ⟨rfl, rfl⟩) | (go_at_call 14; have _t := tok; refine (pow2_any _ (by omega) (by omega) _).mono ?_; rintro e w' ⟨p, n1, hp, rfl, rfl⟩; clear tok; obtain ⟨x, fx, ix⟩ := is_prod (n := a0) (by omega) hp (by omega)) | (go_at_call 15; refine (hSquared _ _).mono ?_; rintro e w' ⟨r, hr, rfl, hb⟩) | (go_at_call 14; refine (pow2_any _ (by omega) (by omega) _).mono ?_; rintro e w' ⟨q, n2, hq, rfl, rfl⟩; obtain ⟨y, fy, iy⟩ := is_prod (n := a0 * a0) (by omega) hq (by omega); obtain ⟨ss, ly⟩ := square_same hn (by omega) (by omega) ix hr iy; have lr := hr.lt) | (go_at_call 12; refine (sameF_true _ _ (by assumption) (by assumption) (by assumption) _).mono ?_; rintro e w' ⟨rfl, hb⟩))
  go_ret
  refine ⟨ret_bool (by simp), ?_⟩
  repeat' (first | exact Below.refl _ _ | refine below_alloc ?_ _ | refine below_drewN ?_ _ | refine Below.drew ?_ | refine below_step ?_ (by assumption))

theorem sqrt_zero {x : Nat} {k : Int} (hx : Is x false 0 k) : Ieee.double.sqrt x = some x := by
  have hr : rung x = 0 := by
    have := hx.eq
    rw [Nat.zero_mul] at this
    exact mag_inj (this.trans mag_zero.symm)
  have hx0 : x = 0 := word_ext hx.lt (by decide) (by rw [hx.sg]; decide) (by rw [hr]; decide)
  subst hx0
  decide
theorem root_word {n k : Int} {x : Nat} (hn : n.natAbs ≤ 2 ^ 26) (k1 : -450 ≤ k) (k2 : k ≤ 400) (ix : Is x (decide (n * n < 0)) (n * n).natAbs (2 * k)) : ∃ z, Ieee.double.sqrt x = some z ∧ Is z false n.natAbs k := by
  have hs : decide (n * n < 0) = false := by
    rw [decide_eq_false_iff_not]
    have : 0 ≤ n * n := by
      rcases Int.le_total 0 n with h | h
      · exact Int.mul_nonneg h h
      · exact Int.mul_nonneg_of_nonpos_of_nonpos h h
    omega
  rw [hs, Int.natAbs_mul] at ix
  by_cases h0 : n.natAbs = 0
  · rw [h0] at ix ⊢
    refine ⟨x, sqrt_zero ix, ix.lt, ix.sg, ix.fin, by omega, ?_⟩
    rw [ix.eq, Nat.zero_mul, Nat.zero_mul]
  · exact sqrt_exact ix hn h0 (by omega) k2

theorem fnSqrtOfPerfectSquareIsExact.walk (a0 : Int) (w0 : (Lit.int .i64 a0).wf = true) (a1 : Int) (w1 : (Lit.int .i64 a1).wf = true) (w : World) : Calls Try.prog 5 #[.int .i64 a0, .int .i64 a1] w fun e w' => e = .returned (.bool true) ∧ Below w.heap.size w w' := by
  clear w0 w1
  by_cases c0 : a0 < -67108864
  · go_enter Try.func5, Try.ntmps5
    go_wp2
    go_ret
    exact ⟨rfl, Below.refl _ _⟩
  by_cases c1 : 67108864 < a0
  · go_enter Try.func5, Try.ntmps5
    go_wp2
    go_ret
    exact ⟨rfl, Below.refl _ _⟩
  by_cases c2 : a1 < -200
  · go_enter Try.func5, Try.ntmps5
    go_wp2
    go_ret
    exact ⟨rfl, Below.refl _ _⟩
  by_cases c3 : 200 < a1
  · go_enter Try.func5, Try.ntmps5
    go_wp2
    go_ret
    exact ⟨rfl, Below.refl _ _⟩
  have tok : True := trivial
  have hn : a0.natAbs ≤ 2 ^ 26 := by omega
  have hs := sq_natAbs hn
  have hw : IntKind.i64.wrap (a0 * a0) = a0 * a0 := IntWalk.i64_in _ (by omega)
  by_cases hneg : a0 < 0
  · skip
    go_enter Try.func5, Try.ntmps5
    go_wp2_with (first | (go_at_call 8; refine (newF64 _ _).mono ?_; rintro e w' ⟨rfl, rfl⟩) | (go_at_call 10; refine (value _ _).mono ?_; rintro e w' ⟨rfl, rfl⟩) | (go_at_call 14; have _t := tok; refine (pow2_any _ (by omega) (by omega) _).mono ?_; rintro e w' ⟨p, n1, hp, rfl, rfl⟩; clear tok; obtain ⟨x, fx, ix⟩ := is_prod (n := a0 * a0) (by omega) hp (by omega); obtain ⟨z, hz, iz⟩ := root_word hn (by omega) (by omega) ix) | (go_at_call 16; refine (hSqrt hz _).mono ?_; rintro e w' ⟨rfl, hb⟩) | (go_at_call 14; refine (pow2_any _ (by omega) (by omega) _).mono ?_; rintro e w' ⟨q, n2, hq, rfl, rfl⟩; obtain ⟨y, fy, iy⟩ := is_prod (n := -a0) (by omega) hq (by omega); have ss : sameB z y = true := (by rw [iz.uniq (y := y) (s := false) (by rw [show (false : Bool) = decide (-a0 < 0) by simp; omega]; exact iy) (by rw [show (-a0).natAbs = a0.natAbs by omega])]; exact sameB_self y); have lz := iz.lt; have ly := iy.lt) | (go_at_call 12; refine (sameF_true _ _ (by assumption) (by assumption) (by assumption) _).mono ?_; rintro e w' ⟨rfl, hb⟩))
    go_ret
    refine ⟨ret_bool (by simp), ?_⟩
    repeat' (first | exact Below.refl _ _ | refine below_alloc ?_ _ | refine below_drewN ?_ _ | refine Below.drew ?_ | refine below_step ?_ (by assumption))
  · skip
    go_enter Try.func5, Try.ntmps5
    go_wp2_with (first | (go_at_call 8; refine (newF64 _ _).mono ?_; rintro e w' ⟨rfl, rfl⟩) | (go_at_call 10; refine (value _ _).mono ?_; rintro e w' ⟨rfl, rfl⟩) | (go_at_call 14; have _t := tok; refine (pow2_any _ (by omega) (by omega) _).mono ?_; rintro e w' ⟨p, n1, hp, rfl, rfl⟩; clear tok; obtain ⟨x, fx, ix⟩ := is_prod (n := a0 * a0) (by omega) hp (by omega); obtain ⟨z, hz, iz⟩ := root_word hn (by omega) (by omega) ix) | (go_at_call 16; refine (hSqrt hz _).mono ?_; rintro e w' ⟨rfl, hb⟩) | (go_at_call 14; refine (pow2_any _ (by omega) (by omega) _).mono ?_; rintro e w' ⟨q, n2, hq, rfl, rfl⟩; obtain ⟨y, fy, iy⟩ := is_prod (n := a0) (by omega) hq (by omega); have ss : sameB z y = true := (by rw [iz.uniq (y := y) (s := false) (by rw [show (false : Bool) = decide (a0 < 0) by simp; omega]; exact iy) (by rw [show (a0).natAbs = a0.natAbs by omega])]; exact sameB_self y); have lz := iz.lt; have ly := iy.lt) | (go_at_call 12; refine (sameF_true _ _ (by assumption) (by assumption) (by assumption) _).mono ?_; rintro e w' ⟨rfl, hb⟩))
    go_ret
    refine ⟨ret_bool (by simp), ?_⟩
    repeat' (first | exact Below.refl _ _ | refine below_alloc ?_ _ | refine below_drewN ?_ _ | refine Below.drew ?_ | refine below_step ?_ (by assumption))

end Go.Proofs.Ytehmgpceajbmkaa
