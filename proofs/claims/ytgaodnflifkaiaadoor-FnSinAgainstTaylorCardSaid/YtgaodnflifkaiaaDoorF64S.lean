/- When two float64 words are the same value: as words, or both NaN. Reciprocals of zeros. -/
import Derived.Test.YtgaodnflifkaiaaDoorF64W
namespace Go.Fl
open Ieee

def pinf : Nat := 9218868437227405312
def ninf : Nat := 18442240474082181120
@[go_sem] theorem nan_pinf : nan pinf = false := by decide
@[go_sem] theorem nan_ninf : nan ninf = false := by decide
@[go_sem] theorem key_pinf : key pinf = 9218868437227405312 := by decide
@[go_sem] theorem key_ninf : key ninf = -9218868437227405312 := by decide

def sameB (x y : Nat) : Bool := (nan x && nan y) || decide (x = y)

theorem key_zero_iff (x : Nat) : key x = 0 ↔ rung x = 0 := by
  unfold key; cases neg x <;> simp
theorem key_inj {x y : Nat} (hx : x < 2 ^ 64) (hy : y < 2 ^ 64) (h : key x = key y) (h0 : key x ≠ 0) : x = y := by
  have hr : rung x = rung y ∧ neg x = neg y := by
    unfold key at h h0
    cases sx : neg x <;> cases sy : neg y <;> simp only [sx, sy, Bool.false_eq_true, reduceIte] at h h0 <;> first | (refine ⟨?_, rfl⟩; omega) | (exfalso; omega)
  exact word_ext hx hy hr.2 hr.1

/-- One over a zero. -/
theorem inv_zero (w : World) {x : Nat} (h : key x = 0) : fop .quo w 4607182418800017408 x = if neg x then ninf else pinf := by
  have hr := (key_zero_iff x).1 h
  have e1 : double.read 4607182418800017408 = .number false (2 ^ 52) (-52) := by decide
  have hb : floatBits .quo .f64 4607182418800017408 x = some (if neg x then ninf else pinf) := by
    rw [fb_quo, e1, read_eq, if_pos (by rw [hr]; decide), hr]
    cases neg x <;> rfl
  unfold fop
  rw [hb]

/-- The ways in which two words compare as values. -/
theorem same_cases {x y : Nat} (hx : x < 2 ^ 64) (hy : y < 2 ^ 64) :
    (nan x = true ∧ nan y = true ∧ sameB x y = true) ∨ (nan x = true ∧ nan y = false ∧ sameB x y = false) ∨ (nan x = false ∧ nan y = true ∧ sameB x y = false) ∨
    (nan x = false ∧ nan y = false ∧ key x < key y ∧ ¬ key x = key y ∧ sameB x y = false) ∨ (nan x = false ∧ nan y = false ∧ key y < key x ∧ ¬ key x = key y ∧ sameB x y = false) ∨ (nan x = false ∧ nan y = false ∧ key x < 0 ∧ ¬ key x = 0 ∧ x = y) ∨ (nan x = false ∧ nan y = false ∧ 0 < key x ∧ ¬ key x = 0 ∧ x = y) ∨
    (nan x = false ∧ nan y = false ∧ key x = 0 ∧ key y = 0 ∧ (∀ w, fop .quo w 4607182418800017408 x = pinf) ∧ (∀ w, fop .quo w 4607182418800017408 y = pinf) ∧ sameB x y = true) ∨
    (nan x = false ∧ nan y = false ∧ key x = 0 ∧ key y = 0 ∧ (∀ w, fop .quo w 4607182418800017408 x = pinf) ∧ (∀ w, fop .quo w 4607182418800017408 y = ninf) ∧ sameB x y = false) ∨
    (nan x = false ∧ nan y = false ∧ key x = 0 ∧ key y = 0 ∧ (∀ w, fop .quo w 4607182418800017408 x = ninf) ∧ (∀ w, fop .quo w 4607182418800017408 y = pinf) ∧ sameB x y = false) ∨
    (nan x = false ∧ nan y = false ∧ key x = 0 ∧ key y = 0 ∧ (∀ w, fop .quo w 4607182418800017408 x = ninf) ∧ (∀ w, fop .quo w 4607182418800017408 y = ninf) ∧ sameB x y = true) := by
  cases nx : nan x
  · cases ny : nan y
    · by_cases h1 : key x < key y
      · have : x ≠ y := fun e => by rw [e] at h1; omega
        have hk : ¬ key x = key y := by omega
        simp [sameB, nx, h1, this, hk]
      · by_cases h2 : key y < key x
        · have : x ≠ y := fun e => by rw [e] at h2; omega
          have hk : ¬ key x = key y := by omega
          simp [sameB, nx, h2, this, hk]
        · have he : key x = key y := by omega
          by_cases h0 : key x = 0
          · have h0' : key y = 0 := by omega
            have hr := (key_zero_iff x).1 h0
            have hr' := (key_zero_iff y).1 h0'
            have i1 := fun w => inv_zero w h0
            have i2 := fun w => inv_zero w h0'
            have hxy : x = y ↔ neg x = neg y := ⟨fun e => by rw [e], fun e => word_ext hx hy e (by rw [hr, hr'])⟩
            cases sx : neg x <;> cases sy : neg y
            · right; right; right; right; right; right; right; left
              rw [sx] at i1; rw [sy] at i2
              exact ⟨rfl, rfl, h0, h0', i1, i2, by simp [sameB, hxy, sx, sy]⟩
            · right; right; right; right; right; right; right; right; left
              rw [sx] at i1; rw [sy] at i2
              exact ⟨rfl, rfl, h0, h0', i1, i2, by simp [sameB, hxy, sx, sy, nx]⟩
            · right; right; right; right; right; right; right; right; right; left
              rw [sx] at i1; rw [sy] at i2
              exact ⟨rfl, rfl, h0, h0', i1, i2, by simp [sameB, hxy, sx, sy, nx]⟩
            · right; right; right; right; right; right; right; right; right; right
              rw [sx] at i1; rw [sy] at i2
              exact ⟨rfl, rfl, h0, h0', i1, i2, by simp [sameB, hxy, sx, sy]⟩
          · have e := key_inj hx hy he h0
            by_cases hs : key x < 0
            · right; right; right; right; right; left
              exact ⟨rfl, rfl, hs, by omega, e⟩
            · right; right; right; right; right; right; left
              exact ⟨rfl, rfl, by omega, h0, e⟩
    · have : x ≠ y := fun e => by rw [e, ny] at nx; cases nx
      simp [sameB, nx, this]
  · cases ny : nan y
    · have : x ≠ y := fun e => by rw [e, ny] at nx; cases nx
      simp [sameB, nx, ny, this]
    · simp [sameB, nx, ny]
theorem sameB_self (x : Nat) : sameB x x = true := by simp [sameB]
theorem sameB_of {x y : Nat} (h : same x y) : sameB x y = true := by
  rcases h with h | ⟨h, k⟩
  · rw [h]; exact sameB_self y
  · simp [sameB, h, k]
end Go.Fl
