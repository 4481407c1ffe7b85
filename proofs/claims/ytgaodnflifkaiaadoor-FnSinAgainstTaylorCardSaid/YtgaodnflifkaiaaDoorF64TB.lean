/- Polynomials as lists of rational coefficients: bounds, shifts, and how far two values can lie apart. No program in sight. -/
import Derived.Test.YtgaodnflifkaiaaDoorF64TA
namespace Go.Fl
set_option linter.unusedVariables false

def pev : List Rat → Rat → Rat
  | [], _ => 0
  | c :: cs, u => c + u * pev cs u
def rabs (c : Rat) : Rat := if c ≤ 0 then -c else c
theorem rabs_up (c : Rat) : c ≤ rabs c ∧ -rabs c ≤ c ∧ 0 ≤ rabs c := by
  unfold rabs
  split <;> refine ⟨?_, ?_, ?_⟩ <;> grind
def pbd : List Rat → Rat → Rat
  | [], _ => 0
  | c :: cs, h => rabs c + h * pbd cs h
theorem pev_bd (cs : List Rat) {t h : Rat} (h1 : t ≤ h) (h2 : -h ≤ t) : pev cs t ≤ pbd cs h ∧ -pbd cs h ≤ pev cs t := by
  induction cs with
  | nil => exact ⟨by unfold pev pbd; exact Rat.le_refl, by unfold pev pbd; grind⟩
  | cons c cs ih =>
    obtain ⟨a, b⟩ := amul h1 h2 ih.1 ih.2
    obtain ⟨c1, c2, c3⟩ := rabs_up c
    unfold pev pbd
    constructor <;> grind
def padd : List Rat → List Rat → List Rat
  | [], q => q
  | p, [] => p
  | a :: p, b :: q => (a + b) :: padd p q
theorem pev_add (p q : List Rat) (u : Rat) : pev (padd p q) u = pev p u + pev q u := by
  induction p generalizing q with
  | nil => unfold padd; simp only [pev]; grind
  | cons a p ih =>
    cases q with
    | nil => simp only [padd, pev]; grind
    | cons b q => simp only [padd, pev, ih]; grind
def pscale (m : Rat) (p : List Rat) : List Rat := p.map (m * ·)
theorem pev_scale (m : Rat) (p : List Rat) (u : Rat) : pev (pscale m p) u = m * pev p u := by
  induction p with
  | nil => simp only [pscale, List.map_nil, pev]; grind
  | cons a p ih =>
    have e : pscale m (a :: p) = (m * a) :: pscale m p := rfl
    rw [e]; simp only [pev, ih]; grind
/-- The polynomial in 't' where the number is 'm + t'. -/
def pshift (m : Rat) : List Rat → List Rat
  | [] => []
  | c :: cs => padd [c] (padd (pscale m (pshift m cs)) (0 :: pshift m cs))
theorem pev_shift (m : Rat) (p : List Rat) (t : Rat) : pev (pshift m p) t = pev p (m + t) := by
  induction p with
  | nil => rfl
  | cons c cs ih =>
    simp only [pshift, pev_add, pev_scale, pev, ih]
    grind
/-- A polynomial on a piece about m. -/
theorem pev_piece {p : List Rat} {m h B : Rat} (hB : pbd (pshift m p) h ≤ B) {u : Rat} (h1 : u ≤ m + h) (h2 : m - h ≤ u) : pev p u ≤ B ∧ -B ≤ pev p u := by
  obtain ⟨a, b⟩ := pev_bd (pshift m p) (t := u - m) (h := h) (by grind) (by grind)
  rw [pev_shift, show m + (u - m) = u by grind] at a b
  constructor <;> grind
/-- How far two values can lie apart, for numbers within one. -/
def plip : List Rat → Rat
  | [] => 0
  | c :: cs => plip cs + pbd cs 1
theorem pbd_nonneg (cs : List Rat) {h : Rat} (hh : 0 ≤ h) : 0 ≤ pbd cs h := by
  induction cs with
  | nil => exact Rat.le_refl
  | cons c cs ih =>
    have := Rat.mul_nonneg hh ih
    have := (rabs_up c).2.2
    unfold pbd; grind
theorem plip_nonneg (cs : List Rat) : 0 ≤ plip cs := by
  induction cs with
  | nil => exact Rat.le_refl
  | cons c cs ih =>
    have := pbd_nonneg cs (h := 1) (by decide)
    unfold plip; grind
theorem pev_lip (cs : List Rat) {u v d : Rat} (u1 : u ≤ 1) (u2 : -1 ≤ u) (v1 : v ≤ 1) (v2 : -1 ≤ v) (d1 : u - v ≤ d) (d2 : -d ≤ u - v) : pev cs u - pev cs v ≤ plip cs * d ∧ -(plip cs * d) ≤ pev cs u - pev cs v := by
  induction cs with
  | nil => unfold pev plip; constructor <;> grind
  | cons c cs ih =>
    obtain ⟨b1, b2⟩ := pev_bd cs v1 v2
    obtain ⟨p1, p2⟩ := amul d1 d2 b1 b2
    obtain ⟨q1, q2⟩ := amul u1 u2 ih.1 ih.2
    unfold pev plip
    have e : c + u * pev cs u - (c + v * pev cs v) = u * (pev cs u - pev cs v) + (u - v) * pev cs v := by grind
    rw [e]
    constructor <;> grind
end Go.Fl
