/- The series of taylorSin: its words, and how far the last lies from the true sum. No program in sight. -/
import Derived.Test.YtgaodnflifkaiaaDoorF64TB
namespace Go.Fl
open Ieee
set_option linter.unusedVariables false

/-- A term and a sum, and how far they lie from the true ones. -/
structure TI (t s : Nat) (T S τ ε σ : Rat) : Prop where
  ft : Fin' t
  fs : Fin' s
  t1 : rv t ≤ τ
  t2 : -τ ≤ rv t
  e1 : rv t ≤ T + ε
  e2 : T - ε ≤ rv t
  s1 : rv s ≤ S + σ
  s2 : S - σ ≤ rv s

theorem tstep {t s u d G H : Nat} {Y T S τ ε σ D c a b τ' ε' σ' : Rat} (I : TI t s T S τ ε σ) (fu : Fin' u) (u1 : rv u ≤ -Y + 2 * eh) (u2 : -Y - 2 * eh ≤ rv u) (y0 : 0 ≤ Y) (y1 : Y ≤ 1)
    (fd : Fin' d) (hd : rv d = D) (hp : 0 < D) (hc : D * c = 1) (cp : 0 ≤ c) (hG : G ≤ 2044) (hs : stp G = a) (hH : H ≤ 2044) (hs' : stp H = b) (ε0 : 0 ≤ ε)
    (n1 : τ * (1 + 2 * eh) < 9007199254740992 * a) (n2 : (τ * (1 + 2 * eh) + a) * c < 9007199254740992 * b)
    (n3 : (τ * (1 + 2 * eh) + a) * c + b ≤ τ') (n4 : (τ * (2 * eh) + ε + a) * c + b ≤ ε') (n5 : 2 * σ + 2 * ε' + eh ≤ 2 * σ') (n6 : σ + ε' ≤ 1 / 100)
    (hS1 : S + T * -Y * c ≤ 7 / 8) (hS2 : -(7 / 8) ≤ S + T * -Y * c) :
    ∃ m t' s', floatBits .mul .f64 t u = some m ∧ floatBits .quo .f64 m d = some t' ∧ floatBits .add .f64 s t' = some s' ∧ TI t' s' (T * -Y * c) (S + T * -Y * c) τ' ε' σ' := by
  obtain ⟨k0, -⟩ := eh_small
  have k1 := eh_big
  obtain ⟨p1, p2⟩ := amul I.t1 I.t2 (b := rv u) (B := 1 + 2 * eh) (by grind) (by grind)
  obtain ⟨m, hm, fm, m1, m2⟩ := mulE I.ft fu hG hs (by grind) (by grind)
  have c1 := Rat.mul_le_mul_of_nonneg_right (show rv m ≤ τ * (1 + 2 * eh) + a by grind) cp
  have c2 := Rat.mul_le_mul_of_nonneg_right (show -(τ * (1 + 2 * eh) + a) ≤ rv m by grind) cp
  obtain ⟨t', ht, ft, q1, q2⟩ := quoE fm fd hd hp hc hH hs' (by grind) (by grind)
  obtain ⟨r1, r2⟩ := amul I.t1 I.t2 (b := rv u + Y) (B := 2 * eh) (by grind) (by grind)
  obtain ⟨w1, w2⟩ := amul (a := rv t - T) (A := ε) (by have := I.e1; grind) (by have := I.e2; grind) (b := -Y) (B := 1) (by grind) (by grind)
  have e : rv t * rv u - T * -Y = rv t * (rv u + Y) + (rv t - T) * -Y := by grind
  have d1 := Rat.mul_le_mul_of_nonneg_right (show rv m ≤ T * -Y + (τ * (2 * eh) + ε + a) by grind) cp
  have d2 := Rat.mul_le_mul_of_nonneg_right (show T * -Y - (τ * (2 * eh) + ε + a) ≤ rv m by grind) cp
  have g1 : rv t' ≤ T * -Y * c + ε' := by grind
  have g2 : T * -Y * c - ε' ≤ rv t' := by grind
  have i1 := I.s1
  have i2 := I.s2
  generalize T * -Y * c = T' at *
  obtain ⟨s', ha, fs, x1, x2⟩ := addH I.fs ft (G := 1021) (by decide) stp_eh (by rw [k1]; grind) (by rw [k1]; grind)
  exact ⟨m, t', s', hm, ht, ha, ⟨ft, fs, by grind, by grind, g1, g2, by grind, by grind⟩⟩

/-- The coefficients' quotients, the terms and the sums. -/
def tc (k : Nat) : Rat := 1 / (((2 * (k + 1)) * (2 * (k + 1) + 1) : Nat) : Rat)
def tT (X : Rat) : Nat → Rat
  | 0 => X
  | k + 1 => tT X k * -(X * X) * tc k
def tS (X : Rat) : Nat → Rat
  | 0 => X
  | k + 1 => tS X k + tT X k * -(X * X) * tc k
theorem tT_next {X T θ θ' : Rat} {k : Nat} (y0 : 0 ≤ X * X) (y1 : X * X ≤ 1) (h1 : tT X k ≤ θ) (h2 : -θ ≤ tT X k) (hc : 0 ≤ tc k) (h : θ * tc k ≤ θ') : tT X (k + 1) ≤ θ' ∧ -θ' ≤ tT X (k + 1) := by
  obtain ⟨a, b⟩ := amul h1 h2 (b := -(X * X)) (B := 1) (by grind) (by grind)
  have c1 := Rat.mul_le_mul_of_nonneg_right a hc
  have c2 := Rat.mul_le_mul_of_nonneg_right b hc
  unfold tT
  constructor <;> grind
theorem tS_one {X : Rat} (h1 : X ≤ 1) (h2 : -1 ≤ X) : tS X 1 ≤ 5 / 6 ∧ -(5 / 6) ≤ tS X 1 := by
  have hc : tc 0 = 1 / 6 := by decide +kernel
  unfold tS tS tT
  rw [hc]
  have y1 : 0 ≤ (1 - X) * (1 + X) := Rat.mul_nonneg (by grind) (by grind)
  have a1 : 0 ≤ (1 - X) * (1 - X) := by
    have : 0 ≤ 1 - X := by grind
    exact Rat.mul_nonneg this this
  have a2 : 0 ≤ (1 + X) * (1 + X) := by
    have : 0 ≤ 1 + X := by grind
    exact Rat.mul_nonneg this this
  have b1 : 0 ≤ (1 - X) * (5 - X - X * X) := Rat.mul_nonneg (by grind) (by grind)
  have b2 : 0 ≤ (1 + X) * (5 + X - X * X) := Rat.mul_nonneg (by grind) (by grind)
  constructor <;> grind

theorem tT_all {X : Rat} (h1 : X ≤ 1) (h2 : -1 ≤ X) (y0 : 0 ≤ X * X) (y1 : X * X ≤ 1) : (tT X 0 ≤ (1 : Rat) ∧ -(1 : Rat) ≤ tT X 0) ∧ (tT X 1 ≤ (237874615450993313509714328241582522730457771 / 1427247692705959881058285969449495136382746624 : Rat) ∧ -(237874615450993313509714328241582522730457771 / 1427247692705959881058285969449495136382746624 : Rat) ≤ tT X 1) ∧ (tT X 2 ≤ (11893730772549665675485716412079126136522889 / 1427247692705959881058285969449495136382746624 : Rat) ∧ -(11893730772549665675485716412079126136522889 / 1427247692705959881058285969449495136382746624 : Rat) ≤ tT X 2) ∧ (tT X 3 ≤ (283184066013087277987755152668550622298165 / 1427247692705959881058285969449495136382746624 : Rat) ∧ -(283184066013087277987755152668550622298165 / 1427247692705959881058285969449495136382746624 : Rat) ≤ tT X 3) ∧ (tT X 4 ≤ (1966556013979772763803855226864934877071 / 713623846352979940529142984724747568191373312 : Rat) ∧ -(1966556013979772763803855226864934877071 / 713623846352979940529142984724747568191373312 : Rat) ≤ tT X 4) ∧ (tT X 5 ≤ (35755563890541322978251913215726088675 / 1427247692705959881058285969449495136382746624 : Rat) ∧ -(35755563890541322978251913215726088675 / 1427247692705959881058285969449495136382746624 : Rat) ≤ tT X 5) ∧ (tT X 6 ≤ (114601166315837573648243311588865669 / 713623846352979940529142984724747568191373312 : Rat) ∧ -(114601166315837573648243311588865669 / 713623846352979940529142984724747568191373312 : Rat) ≤ tT X 6) ∧ (tT X 7 ≤ (545719839599226541182111007566027 / 713623846352979940529142984724747568191373312 : Rat) ∧ -(545719839599226541182111007566027 / 713623846352979940529142984724747568191373312 : Rat) ≤ tT X 7) ∧ (tT X 8 ≤ (1003161469851519377172998175673 / 356811923176489970264571492362373784095686656 : Rat) ∧ -(1003161469851519377172998175673 / 356811923176489970264571492362373784095686656 : Rat) ≤ tT X 8) ∧ (tT X 9 ≤ (733305168020116503781431415 / 89202980794122492566142873090593446023921664 : Rat) ∧ -(733305168020116503781431415 / 89202980794122492566142873090593446023921664 : Rat) ≤ tT X 9) ∧ (tT X 10 ≤ (1745964685762182151860551 / 89202980794122492566142873090593446023921664 : Rat) ∧ -(1745964685762182151860551 / 89202980794122492566142873090593446023921664 : Rat) ≤ tT X 10) ∧ (tT X 11 ≤ (13802092377566657326961 / 356811923176489970264571492362373784095686656 : Rat) ∧ -(13802092377566657326961 / 356811923176489970264571492362373784095686656 : Rat) ≤ tT X 11) ∧ (tT X 12 ≤ (46006974591888857757 / 713623846352979940529142984724747568191373312 : Rat) ∧ -(46006974591888857757 / 713623846352979940529142984724747568191373312 : Rat) ≤ tT X 12) ∧ (tT X 13 ≤ (131074001686293043 / 1427247692705959881058285969449495136382746624 : Rat) ∧ -(131074001686293043 / 1427247692705959881058285969449495136382746624 : Rat) ≤ tT X 13) ∧ (tT X 14 ≤ (80710592171363 / 713623846352979940529142984724747568191373312 : Rat) ∧ -(80710592171363 / 713623846352979940529142984724747568191373312 : Rat) ≤ tT X 14) := by
  have a0 : tT X 0 ≤ (1 : Rat) ∧ -(1 : Rat) ≤ tT X 0 := ⟨h1, h2⟩
  have a1 : tT X 1 ≤ (237874615450993313509714328241582522730457771 / 1427247692705959881058285969449495136382746624 : Rat) ∧ -(237874615450993313509714328241582522730457771 / 1427247692705959881058285969449495136382746624 : Rat) ≤ tT X 1 := tT_next (T := 0) y0 y1 a0.1 a0.2 (by decide +kernel) (by decide +kernel)
  have a2 : tT X 2 ≤ (11893730772549665675485716412079126136522889 / 1427247692705959881058285969449495136382746624 : Rat) ∧ -(11893730772549665675485716412079126136522889 / 1427247692705959881058285969449495136382746624 : Rat) ≤ tT X 2 := tT_next (T := 0) y0 y1 a1.1 a1.2 (by decide +kernel) (by decide +kernel)
  have a3 : tT X 3 ≤ (283184066013087277987755152668550622298165 / 1427247692705959881058285969449495136382746624 : Rat) ∧ -(283184066013087277987755152668550622298165 / 1427247692705959881058285969449495136382746624 : Rat) ≤ tT X 3 := tT_next (T := 0) y0 y1 a2.1 a2.2 (by decide +kernel) (by decide +kernel)
  have a4 : tT X 4 ≤ (1966556013979772763803855226864934877071 / 713623846352979940529142984724747568191373312 : Rat) ∧ -(1966556013979772763803855226864934877071 / 713623846352979940529142984724747568191373312 : Rat) ≤ tT X 4 := tT_next (T := 0) y0 y1 a3.1 a3.2 (by decide +kernel) (by decide +kernel)
  have a5 : tT X 5 ≤ (35755563890541322978251913215726088675 / 1427247692705959881058285969449495136382746624 : Rat) ∧ -(35755563890541322978251913215726088675 / 1427247692705959881058285969449495136382746624 : Rat) ≤ tT X 5 := tT_next (T := 0) y0 y1 a4.1 a4.2 (by decide +kernel) (by decide +kernel)
  have a6 : tT X 6 ≤ (114601166315837573648243311588865669 / 713623846352979940529142984724747568191373312 : Rat) ∧ -(114601166315837573648243311588865669 / 713623846352979940529142984724747568191373312 : Rat) ≤ tT X 6 := tT_next (T := 0) y0 y1 a5.1 a5.2 (by decide +kernel) (by decide +kernel)
  have a7 : tT X 7 ≤ (545719839599226541182111007566027 / 713623846352979940529142984724747568191373312 : Rat) ∧ -(545719839599226541182111007566027 / 713623846352979940529142984724747568191373312 : Rat) ≤ tT X 7 := tT_next (T := 0) y0 y1 a6.1 a6.2 (by decide +kernel) (by decide +kernel)
  have a8 : tT X 8 ≤ (1003161469851519377172998175673 / 356811923176489970264571492362373784095686656 : Rat) ∧ -(1003161469851519377172998175673 / 356811923176489970264571492362373784095686656 : Rat) ≤ tT X 8 := tT_next (T := 0) y0 y1 a7.1 a7.2 (by decide +kernel) (by decide +kernel)
  have a9 : tT X 9 ≤ (733305168020116503781431415 / 89202980794122492566142873090593446023921664 : Rat) ∧ -(733305168020116503781431415 / 89202980794122492566142873090593446023921664 : Rat) ≤ tT X 9 := tT_next (T := 0) y0 y1 a8.1 a8.2 (by decide +kernel) (by decide +kernel)
  have a10 : tT X 10 ≤ (1745964685762182151860551 / 89202980794122492566142873090593446023921664 : Rat) ∧ -(1745964685762182151860551 / 89202980794122492566142873090593446023921664 : Rat) ≤ tT X 10 := tT_next (T := 0) y0 y1 a9.1 a9.2 (by decide +kernel) (by decide +kernel)
  have a11 : tT X 11 ≤ (13802092377566657326961 / 356811923176489970264571492362373784095686656 : Rat) ∧ -(13802092377566657326961 / 356811923176489970264571492362373784095686656 : Rat) ≤ tT X 11 := tT_next (T := 0) y0 y1 a10.1 a10.2 (by decide +kernel) (by decide +kernel)
  have a12 : tT X 12 ≤ (46006974591888857757 / 713623846352979940529142984724747568191373312 : Rat) ∧ -(46006974591888857757 / 713623846352979940529142984724747568191373312 : Rat) ≤ tT X 12 := tT_next (T := 0) y0 y1 a11.1 a11.2 (by decide +kernel) (by decide +kernel)
  have a13 : tT X 13 ≤ (131074001686293043 / 1427247692705959881058285969449495136382746624 : Rat) ∧ -(131074001686293043 / 1427247692705959881058285969449495136382746624 : Rat) ≤ tT X 13 := tT_next (T := 0) y0 y1 a12.1 a12.2 (by decide +kernel) (by decide +kernel)
  have a14 : tT X 14 ≤ (80710592171363 / 713623846352979940529142984724747568191373312 : Rat) ∧ -(80710592171363 / 713623846352979940529142984724747568191373312 : Rat) ≤ tT X 14 := tT_next (T := 0) y0 y1 a13.1 a13.2 (by decide +kernel) (by decide +kernel)
  exact ⟨a0, a1, a2, a3, a4, a5, a6, a7, a8, a9, a10, a11, a12, a13, a14⟩
theorem tS_all {X : Rat} (h1 : X ≤ 1) (h2 : -1 ≤ X) (y0 : 0 ≤ X * X) (y1 : X * X ≤ 1) : (tS X 1 ≤ 7 / 8 ∧ -(7 / 8) ≤ tS X 1) ∧ (tS X 2 ≤ 7 / 8 ∧ -(7 / 8) ≤ tS X 2) ∧ (tS X 3 ≤ 7 / 8 ∧ -(7 / 8) ≤ tS X 3) ∧ (tS X 4 ≤ 7 / 8 ∧ -(7 / 8) ≤ tS X 4) ∧ (tS X 5 ≤ 7 / 8 ∧ -(7 / 8) ≤ tS X 5) ∧ (tS X 6 ≤ 7 / 8 ∧ -(7 / 8) ≤ tS X 6) ∧ (tS X 7 ≤ 7 / 8 ∧ -(7 / 8) ≤ tS X 7) ∧ (tS X 8 ≤ 7 / 8 ∧ -(7 / 8) ≤ tS X 8) ∧ (tS X 9 ≤ 7 / 8 ∧ -(7 / 8) ≤ tS X 9) ∧ (tS X 10 ≤ 7 / 8 ∧ -(7 / 8) ≤ tS X 10) ∧ (tS X 11 ≤ 7 / 8 ∧ -(7 / 8) ≤ tS X 11) ∧ (tS X 12 ≤ 7 / 8 ∧ -(7 / 8) ≤ tS X 12) ∧ (tS X 13 ≤ 7 / 8 ∧ -(7 / 8) ≤ tS X 13) ∧ (tS X 14 ≤ 7 / 8 ∧ -(7 / 8) ≤ tS X 14) := by
  obtain ⟨a0, a1, a2, a3, a4, a5, a6, a7, a8, a9, a10, a11, a12, a13, a14⟩ := tT_all h1 h2 y0 y1
  have b1 := tS_one h1 h2
  have b2 : tS X 2 ≤ (3603800424082548699672172072859975219366435227 / 4281743078117879643174857908348485409148239872 : Rat) ∧ -(3603800424082548699672172072859975219366435227 / 4281743078117879643174857908348485409148239872 : Rat) ≤ tS X 2 := by
    have e : tS X 2 = tS X 1 + tT X 2 := rfl
    rw [e]
    constructor <;> grind
  have b3 : tS X 3 ≤ (1802324988140293980753067669158990435616664861 / 2140871539058939821587428954174242704574119936 : Rat) ∧ -(1802324988140293980753067669158990435616664861 / 2140871539058939821587428954174242704574119936 : Rat) ≤ tS X 3 := by
    have e : tS X 3 = tS X 2 + tT X 3 := rfl
    rw [e]
    constructor <;> grind
  have b4 : tS X 4 ≤ (901165443904167960035679540362335515210648037 / 1070435769529469910793714477087121352287059968 : Rat) ∧ -(901165443904167960035679540362335515210648037 / 1070435769529469910793714477087121352287059968 : Rat) ≤ tS X 4 := by
    have e : tS X 4 = tS X 3 + tT X 4 := rfl
    rw [e]
    constructor <;> grind
  have b5 : tS X 5 ≤ (3604661882883363511766687096205081708020858173 / 4281743078117879643174857908348485409148239872 : Rat) ∧ -(3604661882883363511766687096205081708020858173 / 4281743078117879643174857908348485409148239872 : Rat) ≤ tS X 5 := by
    have e : tS X 5 = tS X 4 + tT X 5 := rfl
    rw [e]
    constructor <;> grind
  have b6 : tS X 6 ≤ (3604661883570970509661712538094541577554052187 / 4281743078117879643174857908348485409148239872 : Rat) ∧ -(3604661883570970509661712538094541577554052187 / 4281743078117879643174857908348485409148239872 : Rat) ≤ tS X 6 := by
    have e : tS X 6 = tS X 5 + tT X 6 := rfl
    rw [e]
    constructor <;> grind
  have b7 : tS X 7 ≤ (3604661883574244828699307897341634243599448349 / 4281743078117879643174857908348485409148239872 : Rat) ∧ -(3604661883574244828699307897341634243599448349 / 4281743078117879643174857908348485409148239872 : Rat) ≤ tS X 7 := by
    have e : tS X 7 = tS X 6 + tT X 7 := rfl
    rw [e]
    constructor <;> grind
  have b8 : tS X 8 ≤ (3604661883574256866636946115574160319577556425 / 4281743078117879643174857908348485409148239872 : Rat) ∧ -(3604661883574256866636946115574160319577556425 / 4281743078117879643174857908348485409148239872 : Rat) ≤ tS X 8 := by
    have e : tS X 8 = tS X 7 + tT X 8 := rfl
    rw [e]
    constructor <;> grind
  have b9 : tS X 9 ≤ (3604661883574256901835594180539752501086264345 / 4281743078117879643174857908348485409148239872 : Rat) ∧ -(3604661883574256901835594180539752501086264345 / 4281743078117879643174857908348485409148239872 : Rat) ≤ tS X 9 := by
    have e : tS X 9 = tS X 8 + tT X 9 := rfl
    rw [e]
    constructor <;> grind
  have b10 : tS X 10 ≤ (3604661883574256901919400485456337244375570793 / 4281743078117879643174857908348485409148239872 : Rat) ∧ -(3604661883574256901919400485456337244375570793 / 4281743078117879643174857908348485409148239872 : Rat) ≤ tS X 10 := by
    have e : tS X 10 = tS X 9 + tT X 10 := rfl
    rw [e]
    constructor <;> grind
  have b11 : tS X 11 ≤ (3604661883574256901919566110564868044263494325 / 4281743078117879643174857908348485409148239872 : Rat) ∧ -(3604661883574256901919566110564868044263494325 / 4281743078117879643174857908348485409148239872 : Rat) ≤ tS X 11 := by
    have e : tS X 11 = tS X 10 + tT X 11 := rfl
    rw [e]
    constructor <;> grind
  have b12 : tS X 12 ≤ (3604661883574256901919566386606715595596640867 / 4281743078117879643174857908348485409148239872 : Rat) ∧ -(3604661883574256901919566386606715595596640867 / 4281743078117879643174857908348485409148239872 : Rat) ≤ tS X 12 := by
    have e : tS X 12 = tS X 11 + tT X 12 := rfl
    rw [e]
    constructor <;> grind
  have b13 : tS X 13 ≤ (901165470893564225479891596749984400163879999 / 1070435769529469910793714477087121352287059968 : Rat) ∧ -(901165470893564225479891596749984400163879999 / 1070435769529469910793714477087121352287059968 : Rat) ≤ tS X 13 := by
    have e : tS X 13 = tS X 12 + tT X 13 := rfl
    rw [e]
    constructor <;> grind
  have b14 : tS X 14 ≤ (1802330941787128450959783193500210932104274087 / 2140871539058939821587428954174242704574119936 : Rat) ∧ -(1802330941787128450959783193500210932104274087 / 2140871539058939821587428954174242704574119936 : Rat) ≤ tS X 14 := by
    have e : tS X 14 = tS X 13 + tT X 14 := rfl
    rw [e]
    constructor <;> grind
  refine ⟨⟨by grind, by grind⟩, ⟨by grind, by grind⟩, ⟨by grind, by grind⟩, ⟨by grind, by grind⟩, ⟨by grind, by grind⟩, ⟨by grind, by grind⟩, ⟨by grind, by grind⟩, ⟨by grind, by grind⟩, ⟨by grind, by grind⟩, ⟨by grind, by grind⟩, ⟨by grind, by grind⟩, ⟨by grind, by grind⟩, ⟨by grind, by grind⟩, ⟨by grind, by grind⟩⟩

/-- The words of the series. -/
structure TW (x u : Nat) (tw sw mw : Nat → Nat) : Prop where
  t0 : tw 0 = x
  s0 : sw 0 = x
  st : ∀ k, k < 14 → floatBits .mul .f64 (tw k) u = some (mw k) ∧ floatBits .quo .f64 (mw k) (floatOfInt .f64 (((2 * (k + 1)) * (2 * (k + 1) + 1) : Nat) : Int)) = some (tw (k + 1)) ∧ floatBits .add .f64 (sw k) (tw (k + 1)) = some (sw (k + 1))
  fs : ∀ k, k ≤ 14 → Fin' (sw k)
theorem ts0 {X : Rat} {t s u : Nat} (I : TI t s (tT X 0) (tS X 0) (1 : Rat) (0 : Rat) (0 : Rat)) (fu : Fin' u) (u1 : rv u ≤ -(X * X) + 2 * eh) (u2 : -(X * X) - 2 * eh ≤ rv u) (y0 : 0 ≤ X * X) (y1 : X * X ≤ 1) (hS : tS X 1 ≤ 7 / 8 ∧ -(7 / 8) ≤ tS X 1) :
    ∃ m t' s', floatBits .mul .f64 t u = some m ∧ floatBits .quo .f64 m (floatOfInt .f64 6) = some t' ∧ floatBits .add .f64 s t' = some s' ∧ TI t' s' (tT X 1) (tS X 1) (6004799503160665 / 36028797018963968 : Rat) (81769399061278951518964300333043992188594859 / 803469022129495137770981046170581301261101496891396417650688 : Rat) (97352592043 / 618970019642690137449562112 : Rat) :=
  tstep (G := 1022) (H := 1019) (a := (1 / 4503599627370496 : Rat)) (b := (1 / 36028797018963968 : Rat)) (c := tc 0) (D := (6 : Rat)) I fu u1 u2 y0 y1 (foi_fin (by decide)) ((rv_foi (by decide)).trans (by decide +kernel)) (by decide +kernel) (by decide +kernel) (by decide +kernel) (by decide) (stp_val (c := 52) rfl) (by decide) (stp_val (c := 55) rfl) (by decide +kernel)
    (by decide +kernel) (by decide +kernel) (by decide +kernel) (by decide +kernel) (by decide +kernel) (by decide +kernel) hS.1 hS.2
theorem ts1 {X : Rat} {t s u : Nat} (I : TI t s (tT X 1) (tS X 1) (6004799503160665 / 36028797018963968 : Rat) (81769399061278951518964300333043992188594859 / 803469022129495137770981046170581301261101496891396417650688 : Rat) (97352592043 / 618970019642690137449562112 : Rat)) (fu : Fin' u) (u1 : rv u ≤ -(X * X) + 2 * eh) (u2 : -(X * X) - 2 * eh ≤ rv u) (y0 : 0 ≤ X * X) (y1 : X * X ≤ 1) (hS : tS X 2 ≤ 7 / 8 ∧ -(7 / 8) ≤ tS X 2) :
    ∃ m t' s', floatBits .mul .f64 t u = some m ∧ floatBits .quo .f64 m (floatOfInt .f64 20) = some t' ∧ floatBits .add .f64 s t' = some s' ∧ TI t' s' (tT X 2) (tS X 2) (12471480638557053292999000323514095457710069147239 / 1496577676626844588240573268701473812127674924007424 : Rat) (2021005033616837949157348337445141492985583 / 200867255532373784442745261542645325315275374222849104412672 : Rat) (275880065981 / 1237940039285380274899124224 : Rat) :=
  tstep (G := 1019) (H := 1015) (a := (1 / 36028797018963968 : Rat)) (b := (1 / 576460752303423488 : Rat)) (c := tc 1) (D := (20 : Rat)) I fu u1 u2 y0 y1 (foi_fin (by decide)) ((rv_foi (by decide)).trans (by decide +kernel)) (by decide +kernel) (by decide +kernel) (by decide +kernel) (by decide) (stp_val (c := 55) rfl) (by decide) (stp_val (c := 59) rfl) (by decide +kernel)
    (by decide +kernel) (by decide +kernel) (by decide +kernel) (by decide +kernel) (by decide +kernel) (by decide +kernel) hS.1 hS.2
theorem ts2 {X : Rat} {t s u : Nat} (I : TI t s (tT X 2) (tS X 2) (12471480638557053292999000323514095457710069147239 / 1496577676626844588240573268701473812127674924007424 : Rat) (2021005033616837949157348337445141492985583 / 200867255532373784442745261542645325315275374222849104412672 : Rat) (275880065981 / 1237940039285380274899124224 : Rat)) (fu : Fin' u) (u1 : rv u ≤ -(X * X) + 2 * eh) (u2 : -(X * X) - 2 * eh ≤ rv u) (y0 : 0 ≤ X * X) (y1 : X * X ≤ 1) (hS : tS X 3 ≤ 7 / 8 ∧ -(7 / 8) ≤ tS X 3) :
    ∃ m t' s', floatBits .mul .f64 t u = some m ∧ floatBits .quo .f64 m (floatOfInt .f64 42) = some t' ∧ floatBits .add .f64 s t' = some s' ∧ TI t' s' (tT X 3) (tS X 3) (18558750950233720776926826661080809558266979995 / 93536104789177786765035829293842113257979682750464 : Rat) (565676764677509920819699914376627260304147 / 1606938044258990275541962092341162602522202993782792835301376 : Rat) (345035324245 / 1237940039285380274899124224 : Rat) :=
  tstep (G := 1015) (H := 1009) (a := (1 / 576460752303423488 : Rat)) (b := (1 / 36893488147419103232 : Rat)) (c := tc 2) (D := (42 : Rat)) I fu u1 u2 y0 y1 (foi_fin (by decide)) ((rv_foi (by decide)).trans (by decide +kernel)) (by decide +kernel) (by decide +kernel) (by decide +kernel) (by decide) (stp_val (c := 59) rfl) (by decide) (stp_val (c := 65) rfl) (by decide +kernel)
    (by decide +kernel) (by decide +kernel) (by decide +kernel) (by decide +kernel) (by decide +kernel) (by decide +kernel) hS.1 hS.2
theorem ts3 {X : Rat} {t s u : Nat} (I : TI t s (tT X 3) (tS X 3) (18558750950233720776926826661080809558266979995 / 93536104789177786765035829293842113257979682750464 : Rat) (565676764677509920819699914376627260304147 / 1606938044258990275541962092341162602522202993782792835301376 : Rat) (345035324245 / 1237940039285380274899124224 : Rat)) (fu : Fin' u) (u1 : rv u ≤ -(X * X) + 2 * eh) (u2 : -(X * X) - 2 * eh ≤ rv u) (y0 : 0 ≤ X * X) (y1 : X * X ≤ 1) (hS : tS X 4 ≤ 7 / 8 ∧ -(7 / 8) ≤ tS X 4) :
    ∃ m t' s', floatBits .mul .f64 t u = some m ∧ floatBits .quo .f64 m (floatOfInt .f64 72) = some t' ∧ floatBits .add .f64 s t' = some s' ∧ TI t' s' (tT X 4) (tS X 4) (4124166877829717841180533395055926931533716959 / 1496577676626844588240573268701473812127674924007424 : Rat) (2531352725636378916611633068933338634199 / 401734511064747568885490523085290650630550748445698208825344 : Rat) (206881300657 / 618970019642690137449562112 : Rat) :=
  tstep (G := 1009) (H := 1003) (a := (1 / 36893488147419103232 : Rat)) (b := (1 / 2361183241434822606848 : Rat)) (c := tc 3) (D := (72 : Rat)) I fu u1 u2 y0 y1 (foi_fin (by decide)) ((rv_foi (by decide)).trans (by decide +kernel)) (by decide +kernel) (by decide +kernel) (by decide +kernel) (by decide) (stp_val (c := 65) rfl) (by decide) (stp_val (c := 71) rfl) (by decide +kernel)
    (by decide +kernel) (by decide +kernel) (by decide +kernel) (by decide +kernel) (by decide +kernel) (by decide +kernel) hS.1 hS.2
theorem ts4 {X : Rat} {t s u : Nat} (I : TI t s (tT X 4) (tS X 4) (4124166877829717841180533395055926931533716959 / 1496577676626844588240573268701473812127674924007424 : Rat) (2531352725636378916611633068933338634199 / 401734511064747568885490523085290650630550748445698208825344 : Rat) (206881300657 / 618970019642690137449562112 : Rat)) (fu : Fin' u) (u1 : rv u ≤ -(X * X) + 2 * eh) (u2 : -(X * X) - 2 * eh ≤ rv u) (y0 : 0 ≤ X * X) (y1 : X * X ≤ 1) (hS : tS X 5 ≤ 7 / 8 ∧ -(7 / 8) ≤ tS X 5) :
    ∃ m t' s', floatBits .mul .f64 t u = some m ∧ floatBits .quo .f64 m (floatOfInt .f64 110) = some t' ∧ floatBits .add .f64 s t' = some s' ∧ TI t' s' (tT X 5) (tS X 5) (9373106540522090762382854153039790615209189 / 374144419156711147060143317175368453031918731001856 : Rat) (112491945104751310978597706998876547461 / 1606938044258990275541962092341162602522202993782792835301376 : Rat) (482482164711 / 1237940039285380274899124224 : Rat) :=
  tstep (G := 1003) (H := 996) (a := (1 / 2361183241434822606848 : Rat)) (b := (1 / 302231454903657293676544 : Rat)) (c := tc 4) (D := (110 : Rat)) I fu u1 u2 y0 y1 (foi_fin (by decide)) ((rv_foi (by decide)).trans (by decide +kernel)) (by decide +kernel) (by decide +kernel) (by decide +kernel) (by decide) (stp_val (c := 71) rfl) (by decide) (stp_val (c := 78) rfl) (by decide +kernel)
    (by decide +kernel) (by decide +kernel) (by decide +kernel) (by decide +kernel) (by decide +kernel) (by decide +kernel) hS.1 hS.2
theorem ts5 {X : Rat} {t s u : Nat} (I : TI t s (tT X 5) (tS X 5) (9373106540522090762382854153039790615209189 / 374144419156711147060143317175368453031918731001856 : Rat) (112491945104751310978597706998876547461 / 1606938044258990275541962092341162602522202993782792835301376 : Rat) (482482164711 / 1237940039285380274899124224 : Rat)) (fu : Fin' u) (u1 : rv u ≤ -(X * X) + 2 * eh) (u2 : -(X * X) - 2 * eh ≤ rv u) (y0 : 0 ≤ X * X) (y1 : X * X ≤ 1) (hS : tS X 6 ≤ 7 / 8 ∧ -(7 / 8) ≤ tS X 6) :
    ∃ m t' s', floatBits .mul .f64 t u = some m ∧ floatBits .quo .f64 m (floatOfInt .f64 156) = some t' ∧ floatBits .add .f64 s t' = some s' ∧ TI t' s' (tT X 6) (tS X 6) (120168032570796097311667372152972770892995 / 748288838313422294120286634350736906063837462003712 : Rat) (213505984839708004925338911851940099 / 401734511064747568885490523085290650630550748445698208825344 : Rat) (551201642105 / 1237940039285380274899124224 : Rat) :=
  tstep (G := 996) (H := 989) (a := (1 / 302231454903657293676544 : Rat)) (b := (1 / 38685626227668133590597632 : Rat)) (c := tc 5) (D := (156 : Rat)) I fu u1 u2 y0 y1 (foi_fin (by decide)) ((rv_foi (by decide)).trans (by decide +kernel)) (by decide +kernel) (by decide +kernel) (by decide +kernel) (by decide) (stp_val (c := 78) rfl) (by decide) (stp_val (c := 85) rfl) (by decide +kernel)
    (by decide +kernel) (by decide +kernel) (by decide +kernel) (by decide +kernel) (by decide +kernel) (by decide +kernel) hS.1 hS.2
theorem ts6 {X : Rat} {t s u : Nat} (I : TI t s (tT X 6) (tS X 6) (120168032570796097311667372152972770892995 / 748288838313422294120286634350736906063837462003712 : Rat) (213505984839708004925338911851940099 / 401734511064747568885490523085290650630550748445698208825344 : Rat) (551201642105 / 1237940039285380274899124224 : Rat)) (fu : Fin' u) (u1 : rv u ≤ -(X * X) + 2 * eh) (u2 : -(X * X) - 2 * eh ≤ rv u) (y0 : 0 ≤ X * X) (y1 : X * X ≤ 1) (hS : tS X 7 ≤ 7 / 8 ∧ -(7 / 8) ≤ tS X 7) :
    ∃ m t' s', floatBits .mul .f64 t u = some m ∧ floatBits .quo .f64 m (floatOfInt .f64 210) = some t' ∧ floatBits .add .f64 s t' = some s' ∧ TI t' s' (tT X 7) (tS X 7) (572228726527600758115691358236958264079 / 748288838313422294120286634350736906063837462003712 : Rat) (2349850822664677198803240160588601 / 803469022129495137770981046170581301261101496891396417650688 : Rat) (619921118845 / 1237940039285380274899124224 : Rat) :=
  tstep (G := 989) (H := 981) (a := (1 / 38685626227668133590597632 : Rat)) (b := (1 / 9903520314283042199192993792 : Rat)) (c := tc 6) (D := (210 : Rat)) I fu u1 u2 y0 y1 (foi_fin (by decide)) ((rv_foi (by decide)).trans (by decide +kernel)) (by decide +kernel) (by decide +kernel) (by decide +kernel) (by decide) (stp_val (c := 85) rfl) (by decide) (stp_val (c := 93) rfl) (by decide +kernel)
    (by decide +kernel) (by decide +kernel) (by decide +kernel) (by decide +kernel) (by decide +kernel) (by decide +kernel) hS.1 hS.2
theorem ts7 {X : Rat} {t s u : Nat} (I : TI t s (tT X 7) (tS X 7) (572228726527600758115691358236958264079 / 748288838313422294120286634350736906063837462003712 : Rat) (2349850822664677198803240160588601 / 803469022129495137770981046170581301261101496891396417650688 : Rat) (619921118845 / 1237940039285380274899124224 : Rat)) (fu : Fin' u) (u1 : rv u ≤ -(X * X) + 2 * eh) (u2 : -(X * X) - 2 * eh ≤ rv u) (y0 : 0 ≤ X * X) (y1 : X * X ≤ 1) (hS : tS X 8 ≤ 7 / 8 ∧ -(7 / 8) ≤ tS X 8) :
    ∃ m t' s', floatBits .mul .f64 t u = some m ∧ floatBits .quo .f64 m (floatOfInt .f64 272) = some t' ∧ floatBits .add .f64 s t' = some s' ∧ TI t' s' (tT X 8) (tS X 8) (2103782082822062650787083829081408623 / 748288838313422294120286634350736906063837462003712 : Rat) (4877960775357740141301526262735 / 401734511064747568885490523085290650630550748445698208825344 : Rat) (344320297791 / 618970019642690137449562112 : Rat) :=
  tstep (G := 981) (H := 973) (a := (1 / 9903520314283042199192993792 : Rat)) (b := (1 / 2535301200456458802993406410752 : Rat)) (c := tc 7) (D := (272 : Rat)) I fu u1 u2 y0 y1 (foi_fin (by decide)) ((rv_foi (by decide)).trans (by decide +kernel)) (by decide +kernel) (by decide +kernel) (by decide +kernel) (by decide) (stp_val (c := 93) rfl) (by decide) (stp_val (c := 101) rfl) (by decide +kernel)
    (by decide +kernel) (by decide +kernel) (by decide +kernel) (by decide +kernel) (by decide +kernel) (by decide +kernel) hS.1 hS.2
theorem ts8 {X : Rat} {t s u : Nat} (I : TI t s (tT X 8) (tS X 8) (2103782082822062650787083829081408623 / 748288838313422294120286634350736906063837462003712 : Rat) (4877960775357740141301526262735 / 401734511064747568885490523085290650630550748445698208825344 : Rat) (344320297791 / 618970019642690137449562112 : Rat)) (fu : Fin' u) (u1 : rv u ≤ -(X * X) + 2 * eh) (u2 : -(X * X) - 2 * eh ≤ rv u) (y0 : 0 ≤ X * X) (y1 : X * X ≤ 1) (hS : tS X 9 ≤ 7 / 8 ∧ -(7 / 8) ≤ tS X 9) :
    ∃ m t' s', floatBits .mul .f64 t u = some m ∧ floatBits .quo .f64 m (floatOfInt .f64 342) = some t' ∧ floatBits .add .f64 s t' = some s' ∧ TI t' s' (tT X 9) (tS X 9) (12302819197789846826711140424329217 / 1496577676626844588240573268701473812127674924007424 : Rat) (64314563913063740010695756185 / 1606938044258990275541962092341162602522202993782792835301376 : Rat) (757360072319 / 1237940039285380274899124224 : Rat) :=
  tstep (G := 973) (H := 965) (a := (1 / 2535301200456458802993406410752 : Rat)) (b := (1 / 649037107316853453566312041152512 : Rat)) (c := tc 8) (D := (342 : Rat)) I fu u1 u2 y0 y1 (foi_fin (by decide)) ((rv_foi (by decide)).trans (by decide +kernel)) (by decide +kernel) (by decide +kernel) (by decide +kernel) (by decide) (stp_val (c := 101) rfl) (by decide) (stp_val (c := 109) rfl) (by decide +kernel)
    (by decide +kernel) (by decide +kernel) (by decide +kernel) (by decide +kernel) (by decide +kernel) (by decide +kernel) hS.1 hS.2
theorem ts9 {X : Rat} {t s u : Nat} (I : TI t s (tT X 9) (tS X 9) (12302819197789846826711140424329217 / 1496577676626844588240573268701473812127674924007424 : Rat) (64314563913063740010695756185 / 1606938044258990275541962092341162602522202993782792835301376 : Rat) (757360072319 / 1237940039285380274899124224 : Rat)) (fu : Fin' u) (u1 : rv u ≤ -(X * X) + 2 * eh) (u2 : -(X * X) - 2 * eh ≤ rv u) (y0 : 0 ≤ X * X) (y1 : X * X ≤ 1) (hS : tS X 10 ≤ 7 / 8 ∧ -(7 / 8) ≤ tS X 10) :
    ∃ m t' s', floatBits .mul .f64 t u = some m ∧ floatBits .quo .f64 m (floatOfInt .f64 420) = some t' ∧ floatBits .add .f64 s t' = some s' ∧ TI t' s' (tT X 10) (tS X 10) (3661553332675551713047803979455 / 187072209578355573530071658587684226515959365500928 : Rat) (170844428668256090166257241 / 1606938044258990275541962092341162602522202993782792835301376 : Rat) (6453746477 / 9671406556917033397649408 : Rat) :=
  tstep (G := 965) (H := 956) (a := (1 / 649037107316853453566312041152512 : Rat)) (b := (1 / 332306998946228968225951765070086144 : Rat)) (c := tc 9) (D := (420 : Rat)) I fu u1 u2 y0 y1 (foi_fin (by decide)) ((rv_foi (by decide)).trans (by decide +kernel)) (by decide +kernel) (by decide +kernel) (by decide +kernel) (by decide) (stp_val (c := 109) rfl) (by decide) (stp_val (c := 118) rfl) (by decide +kernel)
    (by decide +kernel) (by decide +kernel) (by decide +kernel) (by decide +kernel) (by decide +kernel) (by decide +kernel) hS.1 hS.2
theorem ts10 {X : Rat} {t s u : Nat} (I : TI t s (tT X 10) (tS X 10) (3661553332675551713047803979455 / 187072209578355573530071658587684226515959365500928 : Rat) (170844428668256090166257241 / 1606938044258990275541962092341162602522202993782792835301376 : Rat) (6453746477 / 9671406556917033397649408 : Rat)) (fu : Fin' u) (u1 : rv u ≤ -(X * X) + 2 * eh) (u2 : -(X * X) - 2 * eh ≤ rv u) (y0 : 0 ≤ X * X) (y1 : X * X ≤ 1) (hS : tS X 11 ≤ 7 / 8 ∧ -(7 / 8) ≤ tS X 11) :
    ∃ m t' s', floatBits .mul .f64 t u = some m ∧ floatBits .quo .f64 m (floatOfInt .f64 506) = some t' ∧ floatBits .add .f64 s t' = some s' ∧ TI t' s' (tT X 11) (tS X 11) (28945085633798843046472760643 / 748288838313422294120286634350736906063837462003712 : Rat) (370440761996892202300135 / 1606938044258990275541962092341162602522202993782792835301376 : Rat) (894799025793 / 1237940039285380274899124224 : Rat) :=
  tstep (G := 956) (H := 947) (a := (1 / 332306998946228968225951765070086144 : Rat)) (b := (1 / 170141183460469231731687303715884105728 : Rat)) (c := tc 10) (D := (506 : Rat)) I fu u1 u2 y0 y1 (foi_fin (by decide)) ((rv_foi (by decide)).trans (by decide +kernel)) (by decide +kernel) (by decide +kernel) (by decide +kernel) (by decide) (stp_val (c := 118) rfl) (by decide) (stp_val (c := 127) rfl) (by decide +kernel)
    (by decide +kernel) (by decide +kernel) (by decide +kernel) (by decide +kernel) (by decide +kernel) (by decide +kernel) hS.1 hS.2
theorem ts11 {X : Rat} {t s u : Nat} (I : TI t s (tT X 11) (tS X 11) (28945085633798843046472760643 / 748288838313422294120286634350736906063837462003712 : Rat) (370440761996892202300135 / 1606938044258990275541962092341162602522202993782792835301376 : Rat) (894799025793 / 1237940039285380274899124224 : Rat)) (fu : Fin' u) (u1 : rv u ≤ -(X * X) + 2 * eh) (u2 : -(X * X) - 2 * eh ≤ rv u) (y0 : 0 ≤ X * X) (y1 : X * X ≤ 1) (hS : tS X 12 ≤ 7 / 8 ∧ -(7 / 8) ≤ tS X 12) :
    ∃ m t' s', floatBits .mul .f64 t u = some m ∧ floatBits .quo .f64 m (floatOfInt .f64 600) = some t' ∧ floatBits .add .f64 s t' = some s' ∧ TI t' s' (tT X 12) (tS X 12) (3015113086854047815164597 / 46768052394588893382517914646921056628989841375232 : Rat) (337296361487019969399 / 803469022129495137770981046170581301261101496891396417650688 : Rat) (481759251265 / 618970019642690137449562112 : Rat) :=
  tstep (G := 947) (H := 938) (a := (1 / 170141183460469231731687303715884105728 : Rat)) (b := (1 / 87112285931760246646623899502532662132736 : Rat)) (c := tc 11) (D := (600 : Rat)) I fu u1 u2 y0 y1 (foi_fin (by decide)) ((rv_foi (by decide)).trans (by decide +kernel)) (by decide +kernel) (by decide +kernel) (by decide +kernel) (by decide) (stp_val (c := 127) rfl) (by decide) (stp_val (c := 136) rfl) (by decide +kernel)
    (by decide +kernel) (by decide +kernel) (by decide +kernel) (by decide +kernel) (by decide +kernel) (by decide +kernel) hS.1 hS.2
theorem ts12 {X : Rat} {t s u : Nat} (I : TI t s (tT X 12) (tS X 12) (3015113086854047815164597 / 46768052394588893382517914646921056628989841375232 : Rat) (337296361487019969399 / 803469022129495137770981046170581301261101496891396417650688 : Rat) (481759251265 / 618970019642690137449562112 : Rat)) (fu : Fin' u) (u1 : rv u ≤ -(X * X) + 2 * eh) (u2 : -(X * X) - 2 * eh ≤ rv u) (y0 : 0 ≤ X * X) (y1 : X * X ≤ 1) (hS : tS X 13 ≤ 7 / 8 ∧ -(7 / 8) ≤ tS X 13) :
    ∃ m t' s', floatBits .mul .f64 t u = some m ∧ floatBits .quo .f64 m (floatOfInt .f64 702) = some t' ∧ floatBits .add .f64 s t' = some s' ∧ TI t' s' (tT X 13) (tS X 13) (34360263098051844895445 / 374144419156711147060143317175368453031918731001856 : Rat) (1038018606976282653 / 1606938044258990275541962092341162602522202993782792835301376 : Rat) (1032237979267 / 1237940039285380274899124224 : Rat) :=
  tstep (G := 938) (H := 928) (a := (1 / 87112285931760246646623899502532662132736 : Rat)) (b := (1 / 89202980794122492566142873090593446023921664 : Rat)) (c := tc 12) (D := (702 : Rat)) I fu u1 u2 y0 y1 (foi_fin (by decide)) ((rv_foi (by decide)).trans (by decide +kernel)) (by decide +kernel) (by decide +kernel) (by decide +kernel) (by decide) (stp_val (c := 136) rfl) (by decide) (stp_val (c := 146) rfl) (by decide +kernel)
    (by decide +kernel) (by decide +kernel) (by decide +kernel) (by decide +kernel) (by decide +kernel) (by decide +kernel) hS.1 hS.2
theorem ts13 {X : Rat} {t s u : Nat} (I : TI t s (tT X 13) (tS X 13) (34360263098051844895445 / 374144419156711147060143317175368453031918731001856 : Rat) (1038018606976282653 / 1606938044258990275541962092341162602522202993782792835301376 : Rat) (1032237979267 / 1237940039285380274899124224 : Rat)) (fu : Fin' u) (u1 : rv u ≤ -(X * X) + 2 * eh) (u2 : -(X * X) - 2 * eh ≤ rv u) (y0 : 0 ≤ X * X) (y1 : X * X ≤ 1) (hS : tS X 14 ≤ 7 / 8 ∧ -(7 / 8) ≤ tS X 14) :
    ∃ m t' s', floatBits .mul .f64 t u = some m ∧ floatBits .quo .f64 m (floatOfInt .f64 812) = some t' ∧ floatBits .add .f64 s t' = some s' ∧ TI t' s' (tT X 14) (tS X 14) (169262379793358932863 / 1496577676626844588240573268701473812127674924007424 : Rat) (1376072926161909 / 1606938044258990275541962092341162602522202993782792835301376 : Rat) (275239364001 / 309485009821345068724781056 : Rat) :=
  tstep (G := 928) (H := 919) (a := (1 / 89202980794122492566142873090593446023921664 : Rat)) (b := (1 / 45671926166590716193865151022383844364247891968 : Rat)) (c := tc 13) (D := (812 : Rat)) I fu u1 u2 y0 y1 (foi_fin (by decide)) ((rv_foi (by decide)).trans (by decide +kernel)) (by decide +kernel) (by decide +kernel) (by decide +kernel) (by decide) (stp_val (c := 146) rfl) (by decide) (stp_val (c := 155) rfl) (by decide +kernel)
    (by decide +kernel) (by decide +kernel) (by decide +kernel) (by decide +kernel) (by decide +kernel) (by decide +kernel) hS.1 hS.2
/-- Nought less a finite word, exactly. -/
theorem zero_subE {q : Nat} (fq : Fin' q) : ∃ u, floatBits .sub .f64 0 q = some u ∧ Fin' u ∧ rv u ≤ -rv q ∧ -rv q ≤ rv u := by
  have f0 : rung 0 < infR := by decide
  have v0 : val 0 = 0 := by decide
  have hv : val (Op.negFloat .f64 q) = -val q := by
    unfold val; rw [neg_neg fq.lt, rung_neg fq.lt]
    cases neg q <;> simp
  by_cases hz : val q = 0
  · refine ⟨0, ?_, ⟨by decide, f0⟩, ?_, ?_⟩
    · rw [sub_is_add fq.lt]
      refine add_exact f0 (by rw [rung_neg fq.lt]; exact fq.fin) (by decide) f0 (by rw [v0, hv, hz]; rfl) ?_
      rw [v0, if_pos rfl]; rfl
    · unfold rv; rw [hz, v0]; decide +kernel
    · unfold rv; rw [hz, v0]; decide +kernel
  · refine ⟨Op.negFloat .f64 q, ?_, neg_fin fq, by rw [rv_neg fq.lt]; exact Rat.le_refl, by rw [rv_neg fq.lt]; exact Rat.le_refl⟩
    rw [sub_is_add fq.lt]
    refine add_exact f0 (by rw [rung_neg fq.lt]; exact fq.fin) (neg_fin fq).lt (by rw [rung_neg fq.lt]; exact fq.fin) (by rw [v0]; omega) ?_
    rw [hv, if_neg (by omega)]
    unfold val at hz ⊢
    rw [neg_neg fq.lt]
    cases hn : neg q <;> rw [hn] at hz <;> simp at hz ⊢ <;> omega
theorem taylor_words {x : Nat} (fx : Fin' x) (h1 : rv x ≤ 1) (h2 : -1 ≤ rv x) : ∃ q u tw sw mw, floatBits .mul .f64 x x = some q ∧ floatBits .sub .f64 0 q = some u ∧ TW x u tw sw mw ∧ rv (sw 14) ≤ tS (rv x) 14 + (275239364001 / 309485009821345068724781056 : Rat) ∧ tS (rv x) 14 - (275239364001 / 309485009821345068724781056 : Rat) ≤ rv (sw 14) := by
  obtain ⟨k0, k1⟩ := eh_small
  have k2 := eh_big
  have y0 : 0 ≤ rv x * rv x := by
    rcases Rat.le_total (a := 0) (b := rv x) with h | h
    · exact Rat.mul_nonneg h h
    · have : 0 ≤ -rv x * -rv x := Rat.mul_nonneg (by grind) (by grind)
      grind
  have y1 : rv x * rv x ≤ 1 := by
    have : 0 ≤ (1 - rv x) * (1 + rv x) := Rat.mul_nonneg (by grind) (by grind)
    grind
  have s22 : stp 1022 = 2 * eh := by rw [stp_val (c := 52) rfl]; decide +kernel
  obtain ⟨q, hq, fq, q1, q2⟩ := mulE fx fx (G := 1022) (by decide) s22 (by grind) (by grind)
  obtain ⟨u, hu, fu, u1, u2⟩ := zero_subE fq
  have v1 : rv u ≤ -(rv x * rv x) + 2 * eh := by grind
  have v2 : -(rv x * rv x) - 2 * eh ≤ rv u := by grind
  obtain ⟨b1, b2, b3, b4, b5, b6, b7, b8, b9, b10, b11, b12, b13, b14⟩ := tS_all h1 h2 y0 y1
  have I0 : TI x x (tT (rv x) 0) (tS (rv x) 0) (1 : Rat) (0 : Rat) (0 : Rat) := ⟨fx, fx, h1, h2, by show rv x ≤ rv x + 0; grind, by show rv x - 0 ≤ rv x; grind, by show rv x ≤ rv x + 0; grind, by show rv x - 0 ≤ rv x; grind⟩
  obtain ⟨m0, t1, s1, hm0, hq0, ha0, I1⟩ := ts0 I0 fu v1 v2 y0 y1 b1
  obtain ⟨m1, t2, s2, hm1, hq1, ha1, I2⟩ := ts1 I1 fu v1 v2 y0 y1 b2
  obtain ⟨m2, t3, s3, hm2, hq2, ha2, I3⟩ := ts2 I2 fu v1 v2 y0 y1 b3
  obtain ⟨m3, t4, s4, hm3, hq3, ha3, I4⟩ := ts3 I3 fu v1 v2 y0 y1 b4
  obtain ⟨m4, t5, s5, hm4, hq4, ha4, I5⟩ := ts4 I4 fu v1 v2 y0 y1 b5
  obtain ⟨m5, t6, s6, hm5, hq5, ha5, I6⟩ := ts5 I5 fu v1 v2 y0 y1 b6
  obtain ⟨m6, t7, s7, hm6, hq6, ha6, I7⟩ := ts6 I6 fu v1 v2 y0 y1 b7
  obtain ⟨m7, t8, s8, hm7, hq7, ha7, I8⟩ := ts7 I7 fu v1 v2 y0 y1 b8
  obtain ⟨m8, t9, s9, hm8, hq8, ha8, I9⟩ := ts8 I8 fu v1 v2 y0 y1 b9
  obtain ⟨m9, t10, s10, hm9, hq9, ha9, I10⟩ := ts9 I9 fu v1 v2 y0 y1 b10
  obtain ⟨m10, t11, s11, hm10, hq10, ha10, I11⟩ := ts10 I10 fu v1 v2 y0 y1 b11
  obtain ⟨m11, t12, s12, hm11, hq11, ha11, I12⟩ := ts11 I11 fu v1 v2 y0 y1 b12
  obtain ⟨m12, t13, s13, hm12, hq12, ha12, I13⟩ := ts12 I12 fu v1 v2 y0 y1 b13
  obtain ⟨m13, t14, s14, hm13, hq13, ha13, I14⟩ := ts13 I13 fu v1 v2 y0 y1 b14
  refine ⟨q, u, (fun k => match k with | 0 => x | 1 => t1 | 2 => t2 | 3 => t3 | 4 => t4 | 5 => t5 | 6 => t6 | 7 => t7 | 8 => t8 | 9 => t9 | 10 => t10 | 11 => t11 | 12 => t12 | 13 => t13 | _ => t14), (fun k => match k with | 0 => x | 1 => s1 | 2 => s2 | 3 => s3 | 4 => s4 | 5 => s5 | 6 => s6 | 7 => s7 | 8 => s8 | 9 => s9 | 10 => s10 | 11 => s11 | 12 => s12 | 13 => s13 | _ => s14), (fun k => match k with | 0 => m0 | 1 => m1 | 2 => m2 | 3 => m3 | 4 => m4 | 5 => m5 | 6 => m6 | 7 => m7 | 8 => m8 | 9 => m9 | 10 => m10 | 11 => m11 | 12 => m12 | _ => m13), hq, hu, ⟨rfl, rfl, fun k hk => ?_, fun k hk => ?_⟩, I14.s1, I14.s2⟩
  · match k, hk with
    | 0, _ => exact ⟨hm0, hq0, ha0⟩
    | 1, _ => exact ⟨hm1, hq1, ha1⟩
    | 2, _ => exact ⟨hm2, hq2, ha2⟩
    | 3, _ => exact ⟨hm3, hq3, ha3⟩
    | 4, _ => exact ⟨hm4, hq4, ha4⟩
    | 5, _ => exact ⟨hm5, hq5, ha5⟩
    | 6, _ => exact ⟨hm6, hq6, ha6⟩
    | 7, _ => exact ⟨hm7, hq7, ha7⟩
    | 8, _ => exact ⟨hm8, hq8, ha8⟩
    | 9, _ => exact ⟨hm9, hq9, ha9⟩
    | 10, _ => exact ⟨hm10, hq10, ha10⟩
    | 11, _ => exact ⟨hm11, hq11, ha11⟩
    | 12, _ => exact ⟨hm12, hq12, ha12⟩
    | 13, _ => exact ⟨hm13, hq13, ha13⟩
    | n + 14, h => exact absurd h (by omega)
  · match k, hk with
    | 0, _ => exact I0.fs
    | 1, _ => exact I1.fs
    | 2, _ => exact I2.fs
    | 3, _ => exact I3.fs
    | 4, _ => exact I4.fs
    | 5, _ => exact I5.fs
    | 6, _ => exact I6.fs
    | 7, _ => exact I7.fs
    | 8, _ => exact I8.fs
    | 9, _ => exact I9.fs
    | 10, _ => exact I10.fs
    | 11, _ => exact I11.fs
    | 12, _ => exact I12.fs
    | 13, _ => exact I13.fs
    | 14, _ => exact I14.fs
    | n + 15, h => exact absurd h (by omega)
end Go.Fl

