/- The constants of math/sin.go as rational numbers. No program in sight. -/
import Derived.Test.YtgaodnflifkaiaaDoorF64H
namespace Go.Fl
open Ieee
set_option linter.unusedVariables false
theorem fin_pos {x : Nat} (h : x < infR) : Fin' x := ⟨by unfold infR at h; omega, rung_fin h⟩
theorem v_s0 : rv 4460209587652500685 = (6149556183080141 / 38685626227668133590597632 : Rat) ∧ Fin' 4460209587652500685 := by
  refine ⟨?_, by decide, by decide⟩
  rw [rv_const (e := 989) (c := 85) (by decide) (by decide) (by decide)]; decide +kernel
theorem v_s1 : rv 13716528389658582877 = -(7571123942793053 / 302231454903657293676544 : Rat) ∧ Fin' 13716528389658582877 := by
  have e : (13716528389658582877 : Nat) = Op.negFloat .f64 4493156352803807069 := by decide
  have h : rv 4493156352803807069 = (7571123942793053 / 302231454903657293676544 : Rat) := by
    rw [rv_const (e := 996) (c := 78) (by decide) (by decide) (by decide)]; decide +kernel
  exact ⟨by rw [e, rv_neg (by decide), h], by decide, by decide⟩
theorem v_s2 : rv 4523617212962785441 = (6506786710177953 / 2361183241434822606848 : Rat) ∧ Fin' 4523617212962785441 := by
  refine ⟨?_, by decide, by decide⟩
  rw [rv_const (e := 1003) (c := 71) (by decide) (by decide) (by decide)]; decide +kernel
theorem v_s3 : rv 13774824197404483331 = -(7320136532877059 / 36893488147419103232 : Rat) ∧ Fin' 13774824197404483331 := by
  have e : (13774824197404483331 : Nat) = Op.negFloat .f64 4551452160549707523 := by decide
  have h : rv 4551452160549707523 = (7320136532877059 / 36893488147419103232 : Rat) := by
    rw [rv_const (e := 1009) (c := 65) (by decide) (by decide) (by decide)]; decide +kernel
  exact ⟨by rw [e, rv_neg (by decide), h], by decide, by decide⟩
theorem v_s4 : rv 4575957461383575504 = (300239975157629 / 36028797018963968 : Rat) ∧ Fin' 4575957461383575504 := by
  refine ⟨?_, by decide, by decide⟩
  rw [rv_const (e := 1015) (c := 59) (by decide) (by decide) (by decide)]; decide +kernel
theorem v_s5 : rv 13818544856648471880 = -(750599937895081 / 4503599627370496 : Rat) ∧ Fin' 13818544856648471880 := by
  have e : (13818544856648471880 : Nat) = Op.negFloat .f64 4595172819793696072 := by decide
  have h : rv 4595172819793696072 = (750599937895081 / 4503599627370496 : Rat) := by
    rw [rv_const (e := 1019) (c := 55) (by decide) (by decide) (by decide)]; decide +kernel
  exact ⟨by rw [e, rv_neg (by decide), h], by decide, by decide⟩
theorem v_c0 : rv 13666448263388469915 = -(7030593573755547 / 618970019642690137449562112 : Rat) ∧ Fin' 13666448263388469915 := by
  have e : (13666448263388469915 : Nat) = Op.negFloat .f64 4443076226533694107 := by decide
  have h : rv 4443076226533694107 = (7030593573755547 / 618970019642690137449562112 : Rat) := by
    rw [rv_const (e := 985) (c := 89) (by decide) (by decide) (by decide)]; decide +kernel
  exact ⟨by rw [e, rv_neg (by decide), h], by decide, by decide⟩
theorem v_c1 : rv 4477121864728985349 = (5047434750082821 / 2417851639229258349412352 : Rat) ∧ Fin' 4477121864728985349 := by
  refine ⟨?_, by decide, by decide⟩
  rw [rv_const (e := 993) (c := 81) (by decide) (by decide) (by decide)]; decide +kernel
theorem v_c2 : rv 13732177093698800582 = -(2602714736764387 / 9444732965739290427392 : Rat) ∧ Fin' 13732177093698800582 := by
  have e : (13732177093698800582 : Nat) = Op.negFloat .f64 4508805056844024774 := by decide
  have h : rv 4508805056844024774 = (2602714736764387 / 9444732965739290427392 : Rat) := by
    rw [rv_const (e := 1000) (c := 74) (by decide) (by decide) (by decide)]; decide +kernel
  exact ⟨by rw [e, rv_neg (by decide), h], by decide, by decide⟩
theorem v_c3 : rv 4537941361668146421 = (7320136533427445 / 295147905179352825856 : Rat) ∧ Fin' 4537941361668146421 := by
  refine ⟨?_, by decide, by decide⟩
  rw [rv_const (e := 1006) (c := 68) (by decide) (by decide) (by decide)]; decide +kernel
theorem v_c4 : rv 13787419979223748497 = -(6405119470030737 / 4611686018427387904 : Rat) ∧ Fin' 13787419979223748497 := by
  have e : (13787419979223748497 : Nat) = Op.negFloat .f64 4564047942368972689 := by decide
  have h : rv 4564047942368972689 = (6405119470030737 / 4611686018427387904 : Rat) := by
    rw [rv_const (e := 1012) (c := 62) (by decide) (by decide) (by decide)]; decide +kernel
  exact ⟨by rw [e, rv_neg (by decide), h], by decide, by decide⟩
theorem v_c5 : rv 4586165620538955083 = (6004799503160651 / 144115188075855872 : Rat) ∧ Fin' 4586165620538955083 := by
  refine ⟨?_, by decide, by decide⟩
  rw [rv_const (e := 1017) (c := 57) (by decide) (by decide) (by decide)]; decide +kernel
theorem v_kq : rv 4608412980311869571 = (5734161139222659 / 4503599627370496 : Rat) ∧ Fin' 4608412980311869571 := by
  refine ⟨?_, by decide, by decide⟩
  rw [rv_const (e := 1022) (c := 52) (by decide) (by decide) (by decide)]; decide +kernel
theorem v_kA : rv 4605249456957292544 = (6588397 / 8388608 : Rat) ∧ Fin' 4605249456957292544 := by
  refine ⟨?_, by decide, by decide⟩
  rw [rv_const (e := 1021) (c := 53) (by decide) (by decide) (by decide)]; decide +kernel
theorem v_kB : rv 4495793288086814720 = (1328173 / 35184372088832 : Rat) ∧ Fin' 4495793288086814720 := by
  refine ⟨?_, by decide, by decide⟩
  rw [rv_const (e := 997) (c := 77) (by decide) (by decide) (by decide)]; decide +kernel
theorem v_kCc : rv 4388835458085048688 = (427063790847255 / 158456325028528675187087900672 : Rat) ∧ Fin' 4388835458085048688 := by
  refine ⟨?_, by decide, by decide⟩
  rw [rv_const (e := 973) (c := 101) (by decide) (by decide) (by decide)]; decide +kernel
theorem v_half : rv 4602678819172646912 = (1 / 2 : Rat) ∧ Fin' 4602678819172646912 := by
  refine ⟨?_, by decide, by decide⟩
  rw [rv_const (e := 1021) (c := 53) (by decide) (by decide) (by decide)]; decide +kernel
theorem v_one : rv 4607182418800017408 = (1 / 1 : Rat) ∧ Fin' 4607182418800017408 := by
  refine ⟨?_, by decide, by decide⟩
  rw [rv_const (e := 1022) (c := 52) (by decide) (by decide) (by decide)]; decide +kernel
theorem v_pi4 : rv 4605249457297304856 = (884279719003555 / 1125899906842624 : Rat) ∧ Fin' 4605249457297304856 := by
  refine ⟨?_, by decide, by decide⟩
  rw [rv_const (e := 1021) (c := 53) (by decide) (by decide) (by decide)]; decide +kernel
end Go.Fl

