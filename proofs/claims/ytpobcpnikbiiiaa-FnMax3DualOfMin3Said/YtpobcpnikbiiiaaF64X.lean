/- The greater and the lesser of two float64 words as the model's archMax and archMin give them. -/
import Derived.Test.YtpobcpnikbiiiaaF64S
import Derived.Laws.Externs
namespace Go.Fl
open Ieee

theorem isNaN_read (x : Nat) : (double.read x).isNaN = nan x := by
  rcases cases_word x with h | h | h
  · obtain ⟨t, e⟩ := read_nan h; rw [e, h]; rfl
  · rw [read_inf h, not_nan (by omega)]; rfl
  · obtain ⟨m, k, e, _⟩ := read_fin h; rw [e, not_nan (by omega)]; rfl
theorem neg_read (x : Nat) : (double.read x).neg = neg x := by
  rcases cases_word x with h | h | h
  · obtain ⟨t, e⟩ := read_nan h; rw [e]; rfl
  · rw [read_inf h]; rfl
  · obtain ⟨m, k, e, _⟩ := read_fin h; rw [e]; rfl
theorem isZero_read (x : Nat) : (double.read x).isZero = decide (rung x = 0) := by
  rcases cases_word x with h | h | h
  · obtain ⟨t, e⟩ := read_nan h
    have : rung x ≠ 0 := by rw [nan_iff] at h; omega
    rw [e]; simp [Datum.isZero, this]
  · have : rung x ≠ 0 := by rw [h]; decide
    rw [read_inf h]; simp [Datum.isZero, this]
  · obtain ⟨m, k, e, hm, _⟩ := read_fin h
    rw [e]
    by_cases h0 : m = 0
    · subst h0
      rw [Nat.zero_mul] at hm
      have : rung x = 0 := mag_inj (hm.symm.trans mag_zero.symm)
      simp [Datum.isZero, this]
    · have : rung x ≠ 0 := by
        intro h'
        rw [h', mag_zero] at hm
        rcases Nat.mul_eq_zero.1 hm with h'' | h''
        · exact h0 h''
        · have := Nat.two_pow_pos k; omega
      cases m with
      | zero => exact absurd rfl h0
      | succ m => simp [Datum.isZero, this]
theorem inf_read (x : Nat) (s : Bool) : (double.read x == .infinity s) = (decide (rung x = infR) && (neg x == s)) := by
  rcases cases_word x with h | h | h
  · obtain ⟨t, e⟩ := read_nan h
    have : rung x ≠ infR := by rw [nan_iff] at h; omega
    rw [e]; simp [this]
  · rw [read_inf h, h]
    cases neg x <;> cases s <;> rfl
  · obtain ⟨m, k, e, hm, _⟩ := read_fin h
    have : rung x ≠ infR := by omega
    rw [e]; simp [this]

def qnan : Nat := 9221120237041090561
@[go_sem] theorem nan_qnan : nan qnan = true := by decide

def maxW (x y : Nat) : Nat :=
  if (decide (rung x = infR) && (neg x == false)) || (decide (rung y = infR) && (neg y == false)) then pinf
  else if nan x || nan y then qnan
  else if decide (rung x = 0) && decide (rung y = 0) then (if neg x == false then x else y)
  else if key y < key x then x else y
def minW (x y : Nat) : Nat :=
  if (decide (rung x = infR) && (neg x == true)) || (decide (rung y = infR) && (neg y == true)) then ninf
  else if nan x || nan y then qnan
  else if decide (rung x = 0) && decide (rung y = 0) then (if neg x == true then x else y)
  else if key x < key y then x else y

theorem run_pick_max {P : Program} (name : String) (x y : Nat) (w : World) : (Extern.MathDim.pick name false .gt #[.float .f64 x, .float .f64 y]).run P w = .ok (.float .f64 (maxW x y)) w := by
  have e : Extern.MathDim.pick name false .gt #[.float .f64 x, .float .f64 y] = pure (.float .f64 (if double.read x == .infinity false || double.read y == .infinity false then FloatKind.f64.encode (.infinity false)
      else if (double.read x).isNaN || (double.read y).isNaN then 0x7FF8000000000001
      else if (double.read x).isZero && (double.read y).isZero then (if (double.read x).neg == false then x else y)
      else if (double.read x).order (double.read y) == some .gt then x else y)) := rfl
  have ei : FloatKind.f64.encode (.infinity false) = pinf := by decide
  have eo : (Datum.order (double.read x) (double.read y) == some .gt) = (!nan x && !nan y && decide (key y < key x)) := cmp_gt x y
  rw [e, ei, inf_read, inf_read, isNaN_read, isNaN_read, isZero_read, isZero_read, neg_read, eo]
  show Result.ok _ w = _
  congr 2
  unfold maxW
  cases nx : nan x <;> cases ny : nan y <;> simp [qnan]
theorem run_pick_min {P : Program} (name : String) (x y : Nat) (w : World) : (Extern.MathDim.pick name true .lt #[.float .f64 x, .float .f64 y]).run P w = .ok (.float .f64 (minW x y)) w := by
  have e : Extern.MathDim.pick name true .lt #[.float .f64 x, .float .f64 y] = pure (.float .f64 (if double.read x == .infinity true || double.read y == .infinity true then FloatKind.f64.encode (.infinity true)
      else if (double.read x).isNaN || (double.read y).isNaN then 0x7FF8000000000001
      else if (double.read x).isZero && (double.read y).isZero then (if (double.read x).neg == true then x else y)
      else if (double.read x).order (double.read y) == some .lt then x else y)) := rfl
  have ei : FloatKind.f64.encode (.infinity true) = ninf := by decide
  have eo : (Datum.order (double.read x) (double.read y) == some .lt) = (!nan x && !nan y && decide (key x < key y)) := cmp_lt x y
  rw [e, ei, inf_read, inf_read, isNaN_read, isNaN_read, isZero_read, isZero_read, neg_read, eo]
  show Result.ok _ w = _
  congr 2
  unfold minW
  cases nx : nan x <;> cases ny : nan y <;> simp [qnan]


/-- +Inf. -/
def isP (x : Nat) : Prop := nan x = false ∧ key x = 9218868437227405312
theorem isP_iff {x : Nat} : isP x ↔ rung x = infR ∧ neg x = false := by
  unfold isP key infR
  constructor
  · rintro ⟨h1, h2⟩
    have := rung_lt x
    cases hn : neg x <;> simp only [hn, Bool.false_eq_true, if_true, if_false] at h2
    · exact ⟨by omega, rfl⟩
    · omega
  · rintro ⟨h1, h2⟩
    exact ⟨not_nan (by unfold infR; omega), by rw [h2, h1]; rfl⟩

theorem minW_lt {x y : Nat} (hx : x < 2 ^ 64) (hy : y < 2 ^ 64) : minW x y < 2 ^ 64 := by
  unfold minW
  repeat' split
  all_goals first | assumption | decide
theorem maxW_lt {x y : Nat} (hx : x < 2 ^ 64) (hy : y < 2 ^ 64) : maxW x y < 2 ^ 64 := by
  unfold maxW
  repeat' split
  all_goals first | assumption | decide

/-- The greater of two: all ways. -/
theorem maxW_cases {x y : Nat} (hx : x < 2 ^ 64) (hy : y < 2 ^ 64) :
    ((nan x = false ∧ key x = 9218868437227405312) ∧ maxW x y = pinf) ∨ ((nan y = false ∧ key y = 9218868437227405312) ∧ maxW x y = pinf) ∨
    (¬ isP x ∧ ¬ isP y ∧ (nan x = true ∨ nan y = true) ∧ maxW x y = qnan) ∨
    (nan x = false ∧ nan y = false ∧ key x < 9218868437227405312 ∧ key y < 9218868437227405312 ∧
      ((key y < key x ∧ maxW x y = x) ∨ (key x < key y ∧ maxW x y = y) ∨ (x = y ∧ key x ≠ 0 ∧ maxW x y = x) ∨ (key x = 0 ∧ key y = 0 ∧ maxW x y = if neg x then y else x))) := by
  by_cases px : isP x
  · left
    refine ⟨px, ?_⟩
    have := isP_iff.1 px
    unfold maxW; simp [this.1, this.2]
  by_cases py : isP y
  · right; left
    refine ⟨py, ?_⟩
    have := isP_iff.1 py
    unfold maxW; simp [this.1, this.2]
  right; right
  have qx : (decide (rung x = infR) && (neg x == false)) = false := by
    rw [isP_iff] at px
    by_cases h : rung x = infR
    · simp only [h, true_and, Bool.not_eq_false] at px; simp [px]
    · simp [h]
  have qy : (decide (rung y = infR) && (neg y == false)) = false := by
    rw [isP_iff] at py
    by_cases h : rung y = infR
    · simp only [h, true_and, Bool.not_eq_false] at py; simp [py]
    · simp [h]
  have hm : maxW x y = if nan x || nan y then qnan else if decide (rung x = 0) && decide (rung y = 0) then (if neg x == false then x else y) else if key y < key x then x else y := by
    unfold maxW; rw [qx, qy]; rfl
  cases nx : nan x
  · cases ny : nan y
    · right
      have bx : key x ≤ 9218868437227405312 := by
        have : rung x ≤ infR := by simpa [nan] using nx
        unfold key; unfold infR at this; split <;> omega
      have by' : key y ≤ 9218868437227405312 := by
        have : rung y ≤ infR := by simpa [nan] using ny
        unfold key; unfold infR at this; split <;> omega
      have cx : key x ≠ 9218868437227405312 := fun h => px ⟨nx, h⟩
      have cy : key y ≠ 9218868437227405312 := fun h => py ⟨ny, h⟩
      refine ⟨rfl, rfl, by omega, by omega, ?_⟩
      rw [nx, ny] at hm
      simp only [Bool.or_self, Bool.false_eq_true, if_false] at hm
      have zx := key_zero_iff x
      have zy := key_zero_iff y
      by_cases h0 : key x = 0 ∧ key y = 0
      · right; right; right
        refine ⟨h0.1, h0.2, ?_⟩
        rw [hm, zx.1 h0.1, zy.1 h0.2]
        cases neg x <;> rfl
      · have hz : (decide (rung x = 0) && decide (rung y = 0)) = false := by
          simp only [← zx, ← zy]
          simp only [Bool.and_eq_false_iff, decide_eq_false_iff_not]
          by_cases h : key x = 0
          · exact .inr (fun h' => h0 ⟨h, h'⟩)
          · exact .inl h
        rw [hz] at hm
        simp only [Bool.false_eq_true, if_false] at hm
        by_cases h1 : key y < key x
        · left; exact ⟨h1, by rw [hm, if_pos h1]⟩
        · by_cases h2 : key x < key y
          · right; left; exact ⟨h2, by rw [hm, if_neg h1]⟩
          · right; right; left
            have he : key x = key y := by omega
            have h0' : key x ≠ 0 := fun h => h0 ⟨h, by omega⟩
            have exy := key_inj hx hy he h0'
            exact ⟨exy, h0', by rw [hm, if_neg h1, exy]⟩
    · left
      exact ⟨px, py, .inr rfl, by rw [hm, ny, Bool.or_true]; rfl⟩
  · left
    exact ⟨px, py, .inl rfl, by rw [hm, nx, Bool.true_or]; rfl⟩

/-- The greater is the opposite of the lesser of the opposites. -/
theorem maxW_dual {x y : Nat} (hx : x < 2 ^ 64) (hy : y < 2 ^ 64) : same (maxW x y) (Op.negFloat .f64 (minW (Op.negFloat .f64 x) (Op.negFloat .f64 y))) := by
  have e : minW (Op.negFloat .f64 x) (Op.negFloat .f64 y) =
      if (decide (rung x = infR) && (neg x == false)) || (decide (rung y = infR) && (neg y == false)) then ninf
      else if nan x || nan y then qnan
      else if decide (rung x = 0) && decide (rung y = 0) then (if neg x == false then Op.negFloat .f64 x else Op.negFloat .f64 y)
      else if key y < key x then Op.negFloat .f64 x else Op.negFloat .f64 y := by
    unfold minW
    rw [rung_neg hx, rung_neg hy, neg_neg hx, neg_neg hy, nan_neg hx, nan_neg hy, key_neg hx, key_neg hy]
    have h1 : ∀ b : Bool, ((!b) == true) = (b == false) := by decide
    have h2 : (-key x < -key y) = (key y < key x) := by apply propext; omega
    simp only [h1, h2]
  rw [e]
  unfold maxW
  split
  · left; decide
  · split
    · right; exact ⟨by decide, by decide⟩
    · left
      split
      · split
        · rw [negFloat_twice hx]
        · rw [negFloat_twice hy]
      · split
        · rw [negFloat_twice hx]
        · rw [negFloat_twice hy]
theorem maxW_comm {x y : Nat} (hx : x < 2 ^ 64) (hy : y < 2 ^ 64) : maxW x y = maxW y x := by
  unfold maxW
  rw [Bool.or_comm (decide (rung x = infR) && (neg x == false)), Bool.or_comm (nan x), Bool.and_comm (decide (rung x = 0))]
  split
  · rfl
  · split
    · rfl
    · split
      · rename_i h
        simp only [Bool.and_eq_true, decide_eq_true_eq] at h
        cases sx : neg x <;> cases sy : neg y <;> simp
        · exact word_ext hx hy (by rw [sx, sy]) (by rw [h.1, h.2])
        · exact word_ext hy hx (by rw [sx, sy]) (by rw [h.1, h.2])
      · rename_i h3
        by_cases h1 : key y < key x
        · rw [if_pos h1, if_neg (by omega)]
        · by_cases h2 : key x < key y
          · rw [if_neg h1, if_pos h2]
          · rw [if_neg h1, if_neg h2]
            refine (key_inj hx hy (by omega) ?_).symm
            intro h0
            apply h3
            have zx := (key_zero_iff x).1 h0
            have zy := (key_zero_iff y).1 (by omega)
            simp [zx, zy]
theorem maxW_congr {x x' : Nat} (h : same x x') (y : Nat) : maxW x y = maxW x' y := by
  rcases h with h | ⟨h, k⟩
  · rw [h]
  · have r1 : rung x ≠ infR := by rw [nan_iff] at h; omega
    have r2 : rung x' ≠ infR := by rw [nan_iff] at k; omega
    unfold maxW
    simp [h, k, r1, r2]
/-- Three: the greatest is the opposite of the least of the opposites. -/
theorem max3_dual {x y z : Nat} (hx : x < 2 ^ 64) (hy : y < 2 ^ 64) (hz : z < 2 ^ 64) : same (maxW (maxW x y) z) (Op.negFloat .f64 (minW (minW (Op.negFloat .f64 x) (Op.negFloat .f64 y)) (Op.negFloat .f64 z))) := by
  have hm := minW_lt (negFloat_lt hx) (negFloat_lt hy)
  have h := maxW_dual (negFloat_lt hm) hz
  rw [negFloat_twice hm] at h
  rw [maxW_congr (maxW_dual hx hy) z]
  exact h

theorem key_bound {x : Nat} (h : nan x = false) : -9218868437227405312 ≤ key x ∧ key x ≤ 9218868437227405312 := by
  have : rung x ≤ infR := by simpa [nan] using h
  unfold key; unfold infR at this; split <;> omega
theorem max_ge {x y : Nat} (h : nan (maxW x y) = false) : key (maxW x y) = 9218868437227405312 ∨ (nan y = false ∧ key y ≤ key (maxW x y)) := by
  revert h
  unfold maxW
  split
  · intro _; left; decide
  · split
    · intro h; rw [nan_qnan] at h; cases h
    · rename_i hn
      have hy : nan y = false := by cases hh : nan y <;> simp [hh] at hn ⊢
      intro _; right
      refine ⟨hy, ?_⟩
      split
      · rename_i h0
        simp only [Bool.and_eq_true, decide_eq_true_eq] at h0
        have zx := (key_zero_iff x).2 h0.1
        have zy := (key_zero_iff y).2 h0.2
        split <;> omega
      · split <;> omega
theorem min_le {x y : Nat} (h : nan (minW x y) = false) : key (minW x y) = -9218868437227405312 ∨ (nan y = false ∧ key (minW x y) ≤ key y) := by
  revert h
  unfold minW
  split
  · intro _; left; decide
  · split
    · intro h; rw [nan_qnan] at h; cases h
    · rename_i hn
      have hy : nan y = false := by cases hh : nan y <;> simp [hh] at hn ⊢
      intro _; right
      refine ⟨hy, ?_⟩
      split
      · rename_i h0
        simp only [Bool.and_eq_true, decide_eq_true_eq] at h0
        have zx := (key_zero_iff x).2 h0.1
        have zy := (key_zero_iff y).2 h0.2
        split <;> omega
      · split <;> omega
theorem min3_le_max3 {a b c : Nat} (h1 : nan (minW (minW a b) c) = false) (h2 : nan (maxW (maxW a b) c) = false) : key (minW (minW a b) c) ≤ key (maxW (maxW a b) c) := by
  have b1 := key_bound h1
  have b2 := key_bound h2
  rcases max_ge h2 with h | ⟨_, h⟩ <;> rcases min_le h1 with k | ⟨_, k⟩ <;> omega

/-- A zero with the sign +. -/
def posZ (x : Nat) : Bool := !nan x && decide (key x = 0) && !neg x
def negZ (x : Nat) : Bool := !nan x && decide (key x = 0) && neg x
/-- The greater of two numbers, none of them +Inf. -/
theorem maxW_num {x y : Nat} (hx : x < 2 ^ 64) (hy : y < 2 ^ 64) (nx : nan x = false) (ny : nan y = false) (bx : key x < 9218868437227405312) (by' : key y < 9218868437227405312) :
    nan (maxW x y) = false ∧ key (maxW x y) < 9218868437227405312 ∧ key x ≤ key (maxW x y) ∧ key y ≤ key (maxW x y) ∧ (key (maxW x y) = key x ∨ key (maxW x y) = key y) ∧ (key (maxW x y) = 0 → posZ (maxW x y) = (posZ x || posZ y)) := by
  rcases maxW_cases hx hy with ⟨⟨_, h⟩, _⟩ | ⟨⟨_, h⟩, _⟩ | ⟨_, _, h, _⟩ | ⟨_, _, _, _, h⟩
  · omega
  · omega
  · rcases h with h | h
    · rw [nx] at h; cases h
    · rw [ny] at h; cases h
  · rcases h with ⟨h1, e⟩ | ⟨h1, e⟩ | ⟨h1, h2, e⟩ | ⟨h1, h2, e⟩
    · rw [e]
      refine ⟨nx, bx, by omega, by omega, .inl rfl, fun h => ?_⟩
      have : key y ≠ 0 := by omega
      simp [posZ, this]
    · rw [e]
      refine ⟨ny, by', by omega, by omega, .inr rfl, fun h => ?_⟩
      have : key x ≠ 0 := by omega
      simp [posZ, this]
    · rw [e]
      subst h1
      exact ⟨nx, bx, by omega, by omega, .inl rfl, fun h => absurd h h2⟩
    · rw [e]
      cases sx : neg x
      · simp only [Bool.false_eq_true, if_false]
        refine ⟨nx, bx, by omega, by omega, .inl (by simp), fun _ => ?_⟩
        simp [posZ, nx, h1, sx]
      · simp only [if_true]
        refine ⟨ny, by', by omega, by omega, .inr (by simp), fun _ => ?_⟩
        simp [posZ, sx]

theorem pb_eq (x : Nat) : (decide (rung x = infR) && (neg x == false)) = (!nan x && decide (key x = 9218868437227405312)) := by
  have h := @isP_iff x
  unfold isP at h
  rw [Bool.eq_iff_iff]
  simp only [Bool.and_eq_true, decide_eq_true_eq, beq_iff_eq, Bool.not_eq_true']
  exact h.symm
theorem maxW_eq (x y : Nat) : maxW x y = if (!nan x && decide (key x = 9218868437227405312)) || (!nan y && decide (key y = 9218868437227405312)) then pinf else if nan x || nan y then qnan else if decide (rung x = 0) && decide (rung y = 0) then (if neg x == false then x else y) else if key y < key x then x else y := by
  unfold maxW; rw [pb_eq, pb_eq]
theorem max3_cases {a b c : Nat} (ha : a < 2 ^ 64) (hb : b < 2 ^ 64) (hc : c < 2 ^ 64) :
    (((!nan a && decide (key a = 9218868437227405312)) || (!nan b && decide (key b = 9218868437227405312)) || (!nan c && decide (key c = 9218868437227405312))) = true ∧ maxW (maxW a b) c = pinf) ∨
    ((!nan a && decide (key a = 9218868437227405312)) = false ∧ (!nan b && decide (key b = 9218868437227405312)) = false ∧ (!nan c && decide (key c = 9218868437227405312)) = false ∧ (nan a || nan b || nan c) = true ∧ maxW (maxW a b) c = qnan) ∨
    (nan a = false ∧ nan b = false ∧ nan c = false ∧ key a < 9218868437227405312 ∧ key b < 9218868437227405312 ∧ key c < 9218868437227405312 ∧ nan (maxW (maxW a b) c) = false ∧ key a ≤ key (maxW (maxW a b) c) ∧ key b ≤ key (maxW (maxW a b) c) ∧ key c ≤ key (maxW (maxW a b) c) ∧ (key (maxW (maxW a b) c) = key a ∨ key (maxW (maxW a b) c) = key b ∨ key (maxW (maxW a b) c) = key c) ∧ (key (maxW (maxW a b) c) = 0 → posZ (maxW (maxW a b) c) = (posZ a || posZ b || posZ c))) := by
  cases pa : (!nan a && decide (key a = 9218868437227405312))
  · cases pb : (!nan b && decide (key b = 9218868437227405312))
    · cases pc : (!nan c && decide (key c = 9218868437227405312))
      · right
        cases na : nan a
        · cases nb : nan b
          · have ka : ¬ key a = 9218868437227405312 := by simpa [na] using pa
            have kb : ¬ key b = 9218868437227405312 := by simpa [nb] using pb
            have ba := key_bound na
            have bb := key_bound nb
            obtain ⟨m1, m2, m3, m4, m5, m6⟩ := maxW_num ha hb na nb (by omega) (by omega)
            cases nc : nan c
            · have kc : ¬ key c = 9218868437227405312 := by simpa [nc] using pc
              have bc := key_bound nc
              right
              obtain ⟨g1, g2, g3, g4, g5, g6⟩ := maxW_num (maxW_lt ha hb) hc m1 nc m2 (by omega)
              refine ⟨rfl, rfl, rfl, by omega, by omega, by omega, g1, by omega, by omega, g4, ?_, fun h0 => ?_⟩
              · rcases g5 with g5 | g5
                · rcases m5 with m5 | m5
                  · left; omega
                  · right; left; omega
                · right; right; exact g5
              · rw [g6 h0]
                by_cases hm0 : key (maxW a b) = 0
                · rw [m6 hm0]
                · have h1 : posZ (maxW a b) = false := by simp [posZ, hm0]
                  have h2 : posZ a = false := by simp [posZ]; intro _ h; omega
                  have h3 : posZ b = false := by simp [posZ]; intro _ h; omega
                  rw [h1, h2, h3]; rfl
            · left
              refine ⟨rfl, rfl, rfl, rfl, ?_⟩
              have hmp : (!nan (maxW a b) && decide (key (maxW a b) = 9218868437227405312)) = false := by
                have : ¬ key (maxW a b) = 9218868437227405312 := by omega
                simp [this]
              rw [maxW_eq, hmp, pc, nc, Bool.or_true]; rfl
          · left
            refine ⟨rfl, rfl, rfl, by simp, ?_⟩
            have : maxW a b = qnan := by rw [maxW_eq, pa, pb, nb, Bool.or_true]; rfl
            rw [this, maxW_eq, pc, nan_qnan]; rfl
        · left
          refine ⟨rfl, rfl, rfl, by simp, ?_⟩
          have : maxW a b = qnan := by rw [maxW_eq, pa, pb, na, Bool.true_or]; rfl
          rw [this, maxW_eq, pc, nan_qnan]; rfl
      · left
        refine ⟨by simp, ?_⟩
        rw [maxW_eq, pc, Bool.or_true]; rfl
    · left
      refine ⟨by simp, ?_⟩
      have : maxW a b = pinf := by rw [maxW_eq, pb, Bool.or_true]; rfl
      have hp : (!nan pinf && decide (key pinf = 9218868437227405312)) = true := by decide
      rw [this, maxW_eq, hp, Bool.true_or]; rfl
  · left
    refine ⟨by simp, ?_⟩
    have : maxW a b = pinf := by rw [maxW_eq, pa, Bool.true_or]; rfl
    have hp : (!nan pinf && decide (key pinf = 9218868437227405312)) = true := by decide
    rw [this, maxW_eq, hp, Bool.true_or]; rfl

end Go.Fl
