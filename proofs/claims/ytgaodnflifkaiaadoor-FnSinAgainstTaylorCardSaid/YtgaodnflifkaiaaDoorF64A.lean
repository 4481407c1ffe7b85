/- Plain facts on the words of a float64 as the model reads them: sign, rung, key, value; comparison by keys; what is exact. No program in sight. -/
import Derived.Laws.FloatArith
import Derived.Laws.FloatBits
namespace Go.Fl
open Ieee

def rung (x : Nat) : Nat := x % 2 ^ 63
def neg (x : Nat) : Bool := x / 2 ^ 63 % 2 == 1
def infR : Nat := 9218868437227405312
def nan (x : Nat) : Bool := decide (infR < rung x)
def inf (x : Nat) : Bool := decide (rung x = infR)
def key (x : Nat) : Int := if neg x then -(rung x : Int) else (rung x : Int)
def mag (r : Nat) : Nat := if r < 2 ^ 52 then r else (2 ^ 52 + r % 2 ^ 52) * 2 ^ (r / 2 ^ 52 - 1)
def val (x : Nat) : Int := if neg x then -(mag (rung x) : Int) else (mag (rung x) : Int)
def wd (s : Bool) (r : Nat) : Nat := if s then 2 ^ 63 + r else r

theorem double_sw : double.signWeight = 2 ^ 63 := rfl
theorem double_bin : double.binade = 2 ^ 52 := rfl
theorem double_inf : double.infRung = infR := by decide
theorem double_lp : double.leastPlace = -1074 := by decide
theorem double_word (s : Bool) (r : Nat) : double.word s r = wd s r := rfl
theorem f64_format : FloatKind.f64.format = double := rfl

theorem read_eq (x : Nat) : double.read x = if rung x < 2 ^ 52 then .number (neg x) (rung x) (-1074) else if rung x < infR then .number (neg x) (2 ^ 52 + rung x % 2 ^ 52) (-1074 + (rung x / 2 ^ 52 - 1 : Nat)) else if rung x = infR then .infinity (neg x) else .nan (neg x) (rung x - infR) := by
  simp only [Format.read, double_sw, double_bin, double_inf, double_lp]
  rfl

theorem rung_lt (x : Nat) : rung x < 2 ^ 63 := Nat.mod_lt _ (by decide)
theorem rung_wd (s : Bool) {r : Nat} (h : r < 2 ^ 63) : rung (wd s r) = r := by
  unfold rung wd; cases s <;> simp <;> omega
theorem neg_wd (s : Bool) {r : Nat} (h : r < 2 ^ 63) : neg (wd s r) = s := by
  unfold neg wd; cases s <;> simp <;> omega
theorem wd_self {x : Nat} (h : x < 2 ^ 64) : wd (neg x) (rung x) = x := by
  unfold wd neg rung
  by_cases hx : x / 2 ^ 63 % 2 = 1 <;> simp [hx] <;> omega
theorem word_ext {x y : Nat} (hx : x < 2 ^ 64) (hy : y < 2 ^ 64) (hn : neg x = neg y) (hr : rung x = rung y) : x = y := by
  rw [← wd_self hx, ← wd_self hy, hn, hr]

theorem mag_succ (r : Nat) : mag r < mag (r + 1) := by
  unfold mag
  by_cases h1 : r + 1 < 2 ^ 52
  · rw [if_pos (by omega), if_pos h1]; omega
  · by_cases h2 : r < 2 ^ 52
    · have e : r + 1 = 2 ^ 52 := by omega
      rw [if_pos h2, if_neg h1, e]
      have : (2 ^ 52 + 2 ^ 52 % 2 ^ 52) * 2 ^ (2 ^ 52 / 2 ^ 52 - 1) = 2 ^ 52 := by decide
      omega
    · rw [if_neg h2, if_neg h1]
      by_cases h3 : r % 2 ^ 52 + 1 < 2 ^ 52
      · have e1 : (r + 1) % 2 ^ 52 = r % 2 ^ 52 + 1 := by omega
        have e2 : (r + 1) / 2 ^ 52 = r / 2 ^ 52 := by omega
        rw [e1, e2]
        exact Nat.mul_lt_mul_of_pos_right (by omega) (Nat.two_pow_pos _)
      · have e1 : (r + 1) % 2 ^ 52 = 0 := by omega
        have e2 : (r + 1) / 2 ^ 52 - 1 = (r / 2 ^ 52 - 1) + 1 := by omega
        have e3 : ∀ k : Nat, 2 ^ (k + 1) = 2 * 2 ^ k := fun k => by rw [Nat.pow_succ, Nat.mul_comm]
        rw [e1, e2, e3 (r / 2 ^ 52 - 1), Nat.add_zero, ← Nat.mul_assoc]
        exact Nat.mul_lt_mul_of_pos_right (by omega) (Nat.two_pow_pos _)
theorem mag_lt {r s : Nat} (h : r < s) : mag r < mag s := by
  induction s with
  | zero => omega
  | succ s ih =>
    by_cases e : r = s
    · rw [e]; exact mag_succ s
    · exact Nat.lt_trans (ih (by omega)) (mag_succ s)
theorem mag_lt_iff {r s : Nat} : mag r < mag s ↔ r < s := by
  constructor
  · intro h
    by_cases e : r < s
    · exact e
    · exfalso
      by_cases e2 : r = s
      · rw [e2] at h; omega
      · have := mag_lt (show s < r by omega); omega
  · exact mag_lt
theorem mag_inj {r s : Nat} (h : mag r = mag s) : r = s := by
  by_cases e : r < s
  · have := mag_lt e; omega
  · by_cases e2 : s < r
    · have := mag_lt e2; omega
    · omega
theorem mag_zero : mag 0 = 0 := by decide
theorem mag_pos {r : Nat} (h : 0 < r) : 0 < mag r := by have := mag_lt h; rw [mag_zero] at this; exact this

theorem val_lt_iff (x y : Nat) : val x < val y ↔ key x < key y := by
  unfold val key
  have h1 : mag (rung x) < mag (rung y) ↔ rung x < rung y := mag_lt_iff
  have h2 : mag (rung y) < mag (rung x) ↔ rung y < rung x := mag_lt_iff
  have h3 : 0 < mag (rung x) ↔ 0 < rung x := by have := @mag_lt_iff 0 (rung x); rw [mag_zero] at this; exact this
  have h4 : 0 < mag (rung y) ↔ 0 < rung y := by have := @mag_lt_iff 0 (rung y); rw [mag_zero] at this; exact this
  cases neg x <;> cases neg y <;> simp <;> omega
theorem val_eq_iff (x y : Nat) : val x = val y ↔ key x = key y := by
  have h1 := val_lt_iff x y
  have h2 := val_lt_iff y x
  omega

theorem signed_eq (s : Bool) (m k : Nat) : signed s m k = if s then -((m : Int) * 2 ^ k) else (m : Int) * 2 ^ k := by
  unfold signed; rw [Nat.shiftLeft_eq]; push_cast; rfl

theorem compare_int (a b : Int) : compare a b = if a < b then .lt else if a = b then .eq else .gt := rfl

theorem compare_scale (a b : Int) (k : Nat) : compare (a * 2 ^ k) (b * 2 ^ k) = compare a b := by
  have hp : (0 : Int) < 2 ^ k := Int.pow_pos (by decide)
  rw [compare_int, compare_int]
  by_cases h1 : a < b
  · rw [if_pos h1, if_pos (Int.mul_lt_mul_of_pos_right h1 hp)]
  · by_cases h2 : a = b
    · rw [h2]; simp
    · have h3 : b < a := by omega
      have := Int.mul_lt_mul_of_pos_right h3 hp
      rw [if_neg h1, if_neg h2, if_neg (by omega), if_neg (by omega)]

theorem signed_scale (s : Bool) (m k l : Nat) : signed s m k * 2 ^ l = signed s m (k + l) := by
  rw [signed_eq, signed_eq, Int.pow_add]
  cases s <;> simp [Int.mul_assoc, Int.neg_mul]

theorem order_number (s t : Bool) (m n a b : Nat) : (Datum.number s m (-1074 + (a : Int))).order (.number t n (-1074 + (b : Int))) = some (compare (signed s m a) (signed t n b)) := by
  simp only [Datum.order]
  have e1 : ((-1074 + (a : Int)) - min (-1074 + (a : Int)) (-1074 + (b : Int))).toNat + min a b = a := by omega
  have e2 : ((-1074 + (b : Int)) - min (-1074 + (a : Int)) (-1074 + (b : Int))).toNat + min a b = b := by omega
  rw [← compare_scale _ _ (min a b), signed_scale, signed_scale, e1, e2]

/-- A finite word's datum: sign, digits, place above the least. -/
theorem read_fin {x : Nat} (h : rung x < infR) : ∃ m k : Nat, double.read x = .number (neg x) m (-1074 + (k : Int)) ∧ m * 2 ^ k = mag (rung x) ∧ m < 2 ^ 53 ∧ k ≤ 2045 ∧ (k ≠ 0 → 2 ^ 52 ≤ m) := by
  rw [read_eq]
  unfold mag
  by_cases h1 : rung x < 2 ^ 52
  · exact ⟨rung x, 0, by simp [h1], by simp [h1], by omega, by omega, by omega⟩
  · refine ⟨2 ^ 52 + rung x % 2 ^ 52, rung x / 2 ^ 52 - 1, ?_, ?_, by omega, ?_, by omega⟩
    · rw [if_neg h1, if_pos h]
    · rw [if_neg h1]
    · unfold infR at h; omega
theorem read_inf {x : Nat} (h : rung x = infR) : double.read x = .infinity (neg x) := by
  rw [read_eq, if_neg (by rw [h]; decide), if_neg (by omega), if_pos h]
theorem read_nan {x : Nat} (h : nan x = true) : ∃ t, double.read x = .nan (neg x) t := by
  have h' : infR < rung x := by simpa [nan] using h
  refine ⟨rung x - infR, ?_⟩
  rw [read_eq, if_neg (by unfold infR at h'; omega), if_neg (by omega), if_neg (by omega)]

theorem cases_word (x : Nat) : nan x = true ∨ rung x = infR ∨ rung x < infR := by
  unfold nan; simp; omega
theorem nan_iff (x : Nat) : nan x = true ↔ infR < rung x := by simp [nan]
theorem not_nan {x : Nat} (h : rung x ≤ infR) : nan x = false := by simp [nan]; omega

theorem val_of (x : Nat) : val x = signed (neg x) (mag (rung x)) 0 := by
  unfold val; rw [signed_eq]; simp

theorem order_nan {x y : Nat} (h : nan x = true ∨ nan y = true) : double.order x y = none := by
  unfold Format.order
  rcases h with h | h
  · obtain ⟨t, ht⟩ := read_nan h; rw [ht]; rfl
  · obtain ⟨t, ht⟩ := read_nan h; rw [ht]; cases double.read x <;> rfl

theorem order_num {x y : Nat} (hx : nan x = false) (hy : nan y = false) : double.order x y = some (compare (key x) (key y)) := by
  unfold Format.order
  have hx' : rung x ≤ infR := by simpa [nan] using hx
  have hy' : rung y ≤ infR := by simpa [nan] using hy
  by_cases ix : rung x = infR
  · rw [read_inf ix]
    by_cases iy : rung y = infR
    · rw [read_inf iy]
      simp only [Datum.order, key, ix, iy]
      cases neg x <;> cases neg y <;> decide
    · obtain ⟨n, b, e, _⟩ := read_fin (show rung y < infR by omega)
      rw [e]
      simp only [Datum.order, compare_int]
      congr 1
      have hk : ¬ (key y = key x) ∧ (key x < key y ↔ neg x = true) := by
        unfold key; cases neg x <;> cases neg y <;> simp <;> omega
      cases hn : neg x
      · simp only [hn] at hk; rw [if_neg (by simp), if_neg (by simp at hk; omega), if_neg (by omega)]
      · simp only [hn] at hk; rw [if_pos rfl, if_pos (by simp at hk; omega)]
  · obtain ⟨m, a, ea, hma, _⟩ := read_fin (show rung x < infR by omega)
    rw [ea]
    by_cases iy : rung y = infR
    · rw [read_inf iy]
      simp only [Datum.order, compare_int]
      congr 1
      have hk : ¬ (key x = key y) ∧ (key x < key y ↔ neg y = false) := by
        unfold key; cases neg x <;> cases neg y <;> simp <;> omega
      cases hn : neg y
      · simp only [hn] at hk; rw [if_neg (by simp), if_pos (by simp at hk; omega)]
      · simp only [hn] at hk; rw [if_pos rfl, if_neg (by simp at hk; omega), if_neg (by omega)]
    · obtain ⟨n, b, eb, hmb, _⟩ := read_fin (show rung y < infR by omega)
      rw [eb, order_number]
      have h1 := val_lt_iff x y
      have h2 := val_eq_iff x y
      have v1 : signed (neg x) m a = val x := by rw [val_of, signed_eq, signed_eq, ← hma]; push_cast; simp
      have v2 : signed (neg y) n b = val y := by rw [val_of, signed_eq, signed_eq, ← hmb]; push_cast; simp
      rw [v1, v2, compare_int, compare_int]
      congr 1
      by_cases c1 : val x < val y
      · rw [if_pos c1, if_pos (h1.1 c1)]
      · by_cases c2 : val x = val y
        · rw [if_neg c1, if_pos c2, if_neg (fun h => c1 (h1.2 h)), if_pos (h2.1 c2)]
        · rw [if_neg c1, if_neg c2, if_neg (fun h => c1 (h1.2 h)), if_neg (fun h => c2 (h2.2 h))]

/-- The six comparisons, as plain Bools. -/
theorem cmp_lt (x y : Nat) : (FloatKind.f64.format.order x y == some .lt) = (!nan x && !nan y && decide (key x < key y)) := by
  rw [f64_format]
  cases hx : nan x
  · cases hy : nan y
    · rw [order_num hx hy, compare_int]
      by_cases h1 : key x < key y
      · simp [h1]
      · by_cases h2 : key x = key y <;> simp [h1, h2]
    · rw [order_nan (.inr hy)]; rfl
  · rw [order_nan (.inl hx)]; rfl
theorem cmp_eq (x y : Nat) : (FloatKind.f64.format.order x y == some .eq) = (!nan x && !nan y && decide (key x = key y)) := by
  rw [f64_format]
  cases hx : nan x
  · cases hy : nan y
    · rw [order_num hx hy, compare_int]
      by_cases h1 : key x < key y
      · have : key x ≠ key y := by omega
        simp [h1, this]
      · by_cases h2 : key x = key y <;> simp [h1, h2]
    · rw [order_nan (.inr hy)]; rfl
  · rw [order_nan (.inl hx)]; rfl
theorem cmp_gt (x y : Nat) : (FloatKind.f64.format.order x y == some .gt) = (!nan x && !nan y && decide (key y < key x)) := by
  rw [f64_format]
  cases hx : nan x
  · cases hy : nan y
    · rw [order_num hx hy, compare_int]
      by_cases h1 : key x < key y
      · have : ¬ key y < key x := by omega
        simp [h1, this]
      · by_cases h2 : key x = key y
        · simp [h2]
        · have : key y < key x := by omega
          simp [h1, h2, this]
    · rw [order_nan (.inr hy)]; rfl
  · rw [order_nan (.inl hx)]; rfl
theorem cmp_ne (x y : Nat) : (FloatKind.f64.format.order x y != some .eq) = !(!nan x && !nan y && decide (key x = key y)) := by
  rw [← cmp_eq]; rfl

end Go.Fl
