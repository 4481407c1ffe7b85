/- The two polynomials of math/sin.go against the series. No program in sight. -/
import Derived.Test.YtgaodnflifkaiaaDoorF64TD
namespace Go.Fl
set_option linter.unusedVariables false

def dS : List Rat := padd lS (pscale (-1) (tl 8))
theorem sin_cmp {Z : Rat} (z1 : Z ≤ 11 / 14) (z2 : -(11 / 14) ≤ Z) (q0 : 0 ≤ Z * Z) (q1 : Z * Z ≤ 121 / 196) : Z * pev lS (Z * Z) ≤ tS Z 8 + 2 * eh ∧ tS Z 8 - 2 * eh ≤ Z * pev lS (Z * Z) := by
  have hd : pev dS (Z * Z) ≤ 2 * eh ∧ -(2 * eh) ≤ pev dS (Z * Z) := by
    by_cases h : Z * Z ≤ 5 / 16
    · exact pev_piece (p := dS) (m := 5 / 32) (h := 5 / 32) (by decide +kernel) (by grind) (by grind)
    · exact pev_piece (p := dS) (m := 15 / 32) (h := 5 / 32) (by decide +kernel) (by grind) (by grind)
  obtain ⟨a, b⟩ := amul z1 z2 hd.1 hd.2
  have e : pev dS (Z * Z) = pev lS (Z * Z) - pev (tl 8) (Z * Z) := by
    unfold dS; rw [pev_add, pev_scale]; grind
  have e2 := tS_pev Z 8
  rw [e] at a b
  obtain ⟨k0, k1⟩ := eh_small
  rw [e2]
  constructor <;> grind
/-- Twice the three parts of a quarter of pi. -/
def c0 : Rat := 2 * (6588397 / 8388608) + 2 * (1328173 / 35184372088832) + 2 * (427063790847255 / 158456325028528675187087900672)
def dC : List Rat := padd (peven lC) (pscale (-1) (pshift c0 (0 :: peven (tl 8))))
theorem cos_cmp {X Z : Rat} (hX : X = c0 + Z) (z1 : Z ≤ -(57 / 100)) (z2 : -(788 / 1000) ≤ Z) : pev lC (Z * Z) ≤ tS X 8 + eh / 8 ∧ tS X 8 - eh / 8 ≤ pev lC (Z * Z) := by
  obtain ⟨a, b⟩ := pev_piece (p := dC) (m := -(679 / 1000)) (h := 109 / 1000) (B := eh / 8) (by decide +kernel) (u := Z) (by grind) (by grind)
  have e : pev dC Z = pev lC (Z * Z) - tS X 8 := by
    unfold dC
    rw [pev_add, pev_scale, pev_even, pev_shift, ← hX, tS_pev]
    simp only [pev, pev_even]
    grind
  rw [e] at a b
  constructor <;> grind
end Go.Fl
