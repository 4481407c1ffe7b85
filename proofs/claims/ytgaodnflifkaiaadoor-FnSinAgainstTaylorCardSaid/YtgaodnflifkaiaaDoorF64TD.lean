/- What math/sin.go's two roads give, against the polynomials that they stand for. No program in sight. -/
import Derived.Test.YtgaodnflifkaiaaDoorF64TC
namespace Go.Fl
open Ieee
set_option linter.unusedVariables false

theorem hstepQ {a z c : Nat} {A C e E : Rat} (ha : Fin' a) (hz : Fin' z) (hc : Fin' c) (hA : 0 ≤ A) (a1 : rv a ≤ A) (a2 : -A ≤ rv a) (z0 : 0 ≤ rv z) (z1 : rv z ≤ 1) (c1 : rv c ≤ C) (c2 : -C ≤ rv c) (hs : A + C ≤ 1 / 5) (hC : 0 ≤ C) (he : 0 ≤ e) (e1 : rv a ≤ E + e) (e2 : E - e ≤ rv a) :
    ∃ m r, floatBits .mul .f64 a z = some m ∧ floatBits .add .f64 m c = some r ∧ Fin' m ∧ Fin' r ∧ rv r ≤ A + C + eh / 2 ∧ -(A + C + eh / 2) ≤ rv r ∧ rv r ≤ E * rv z + rv c + (e + eh / 2) ∧ E * rv z + rv c - (e + eh / 2) ≤ rv r := by
  obtain ⟨k0, -⟩ := eh_small
  have k1 := eh_big
  have s19 : stp 1019 = eh / 4 := by rw [stp_val (c := 55) rfl]; decide +kernel
  obtain ⟨p1, p2⟩ := span_mul a1 a2 z0 z1 hA
  obtain ⟨m, hm, fm, m1, m2⟩ := mulE ha hz (G := 1019) (by decide) s19 (by grind) (by grind)
  obtain ⟨r, hr, fr, r1, r2⟩ := addE fm hc (G := 1019) (by decide) s19 (by grind) (by grind)
  obtain ⟨q1, q2⟩ := span_mul (a := rv a - E) (A := e) (by grind) (by grind) z0 z1 he
  exact ⟨m, r, hm, hr, fm, fr, by grind, by grind, by grind, by grind⟩
theorem horQ {c0 c1 c2 c3 c4 c5 z : Nat} {C0 C1 C2 C3 C4 C5 : Rat} (f0 : Fin' c0) (f1 : Fin' c1) (f2 : Fin' c2) (f3 : Fin' c3) (f4 : Fin' c4) (f5 : Fin' c5) (fz : Fin' z) (z0 : 0 ≤ rv z) (z1 : rv z ≤ 1)
    (b0 : rv c0 ≤ C0 ∧ -C0 ≤ rv c0 ∧ 0 ≤ C0) (b1 : rv c1 ≤ C1 ∧ -C1 ≤ rv c1 ∧ 0 ≤ C1) (b2 : rv c2 ≤ C2 ∧ -C2 ≤ rv c2 ∧ 0 ≤ C2) (b3 : rv c3 ≤ C3 ∧ -C3 ≤ rv c3 ∧ 0 ≤ C3) (b4 : rv c4 ≤ C4 ∧ -C4 ≤ rv c4 ∧ 0 ≤ C4) (b5 : rv c5 ≤ C5 ∧ -C5 ≤ rv c5 ∧ 0 ≤ C5)
    {S : Rat} (hs : C0 + C1 + C2 + C3 + C4 + C5 ≤ S) (hS : S ≤ 19 / 100) :
    ∃ m0 a1 m1 a2 m2 a3 m3 a4 m4 p, Hor c0 c1 c2 c3 c4 c5 z m0 a1 m1 a2 m2 a3 m3 a4 m4 p ∧ Fin' p ∧ rv p ≤ hp (rv c0) (rv c1) (rv c2) (rv c3) (rv c4) (rv c5) (rv z) + 5 / 2 * eh ∧ hp (rv c0) (rv c1) (rv c2) (rv c3) (rv c4) (rv c5) (rv z) - 5 / 2 * eh ≤ rv p ∧ rv p ≤ S + 5 / 2 * eh ∧ -(S + 5 / 2 * eh) ≤ rv p := by
  obtain ⟨he0, he1⟩ := eh_small
  obtain ⟨m0, a1, g0, g1, -, fa1, u1, v1, x1, y1⟩ := hstepQ (E := rv c0) (e := 0) f0 fz f1 b0.2.2 b0.1 b0.2.1 z0 z1 b1.1 b1.2.1 (by grind) b1.2.2 (by grind) (by grind) (by grind)
  obtain ⟨m1, a2, g2, g3, -, fa2, u2, v2, x2, y2⟩ := hstepQ fa1 fz f2 (by grind) u1 v1 z0 z1 b2.1 b2.2.1 (by grind) b2.2.2 (by grind) x1 y1
  obtain ⟨m2, a3, g4, g5, -, fa3, u3, v3, x3, y3⟩ := hstepQ fa2 fz f3 (by grind) u2 v2 z0 z1 b3.1 b3.2.1 (by grind) b3.2.2 (by grind) x2 y2
  obtain ⟨m3, a4, g6, g7, -, fa4, u4, v4, x4, y4⟩ := hstepQ fa3 fz f4 (by grind) u3 v3 z0 z1 b4.1 b4.2.1 (by grind) b4.2.2 (by grind) x3 y3
  obtain ⟨m4, p, g8, g9, -, fp, u5, v5, x5, y5⟩ := hstepQ fa4 fz f5 (by grind) u4 v4 z0 z1 b5.1 b5.2.1 (by grind) b5.2.2 (by grind) x4 y4
  have e5 : (0 : Rat) + eh / 2 + eh / 2 + eh / 2 + eh / 2 + eh / 2 = 5 / 2 * eh := by grind
  refine ⟨m0, a1, m1, a2, m2, a3, m3, a4, m4, p, ⟨g0, g1, g2, g3, g4, g5, g6, g7, g8, g9⟩, fp, ?_, ?_, by grind, by grind⟩
  · unfold hp
    refine Rat.le_trans x5 ?_
    rw [e5]; exact Rat.le_refl
  · unfold hp
    refine Rat.le_trans ?_ y5
    rw [e5]; exact Rat.le_refl

/-- The sine's polynomial over the number, and the cosine's, in the number's square. -/
def lS : List Rat := [1, -(750599937895081 / 4503599627370496), 300239975157629 / 36028797018963968, -(7320136532877059 / 36893488147419103232), 6506786710177953 / 2361183241434822606848, -(7571123942793053 / 302231454903657293676544), 6149556183080141 / 38685626227668133590597632]
def lC : List Rat := [1, -(1 / 2), 6004799503160651 / 144115188075855872, -(6405119470030737 / 4611686018427387904), 7320136533427445 / 295147905179352825856, -(2602714736764387 / 9444732965739290427392), 5047434750082821 / 2417851639229258349412352, -(7030593573755547 / 618970019642690137449562112)]
theorem hp_pev (c0 c1 c2 c3 c4 c5 u : Rat) : hp c0 c1 c2 c3 c4 c5 u = pev [c5, c4, c3, c2, c1, c0] u := by
  unfold hp
  simp only [pev]
  grind
theorem sinQ {z : Nat} (hz : Fin' z) (z1 : rv z ≤ 11 / 14) (z2 : -(11 / 14) ≤ rv z) : ∃ zz y, floatBits .mul .f64 z z = some zz ∧
    (∃ m0 a1 m1 a2 m2 a3 m3 a4 m4 p w q, SinH zz m0 a1 m1 a2 m2 a3 m3 a4 m4 p ∧ SinP z zz w p q y) ∧ Fin' y ∧ rv y ≤ rv z * pev lS (rv z * rv z) + 3 * eh ∧ rv z * pev lS (rv z * rv z) - 3 * eh ≤ rv y := by
  obtain ⟨e0, e1⟩ := eh_small
  have e2 := eh_big
  obtain ⟨zz, hzz, fzz, q0, q1', u1, u2⟩ := sq_near hz (by grind) (by grind)
  have sq : rv z * rv z ≤ 121 / 196 := by
    have : 0 ≤ (11 / 14 - rv z) * (11 / 14 + rv z) := Rat.mul_nonneg (by grind) (by grind)
    grind
  have sq0 : 0 ≤ rv z * rv z := by
    rcases Rat.le_total (a := 0) (b := rv z) with h | h
    · exact Rat.mul_nonneg h h
    · have : 0 ≤ -rv z * -rv z := Rat.mul_nonneg (by grind) (by grind)
      grind
  have q1 : rv zz ≤ 5 / 8 := by grind
  obtain ⟨m0, a1, m1, a2, m2, a3, m3, a4, m4, p, hh, fp, p1, p2, p3, p4⟩ := horQ (C0 := 1 / 1000000000) (C1 := 1 / 10000000) (C2 := 1 / 100000) (C3 := 1 / 5000) (C4 := 1 / 100) (C5 := 17 / 100) (S := 19 / 100)
    v_s0.2 v_s1.2 v_s2.2 v_s3.2 v_s4.2 v_s5.2 fzz q0 (by grind) (by rw [v_s0.1]; decide +kernel) (by rw [v_s1.1]; decide +kernel) (by rw [v_s2.1]; decide +kernel) (by rw [v_s3.1]; decide +kernel) (by rw [v_s4.1]; decide +kernel) (by rw [v_s5.1]; decide +kernel) (by decide +kernel) (by decide +kernel)
  rw [v_s0.1, v_s1.1, v_s2.1, v_s3.1, v_s4.1, v_s5.1, hp_pev] at p1 p2
  have s20 : stp 1020 = eh / 2 := by rw [stp_val (c := 54) rfl]; decide +kernel
  have s18 : stp 1018 = eh / 8 := by rw [stp_val (c := 56) rfl]; decide +kernel
  obtain ⟨r1, r2⟩ := span_mul z1 z2 q0 q1 (by decide +kernel)
  obtain ⟨w, h1, fw, w1, w2⟩ := mulE hz fzz (G := 1020) (by decide) s20 (by grind) (by grind)
  obtain ⟨t1, t2⟩ := amul (a := rv w) (A := 1 / 2) (by grind) (by grind) (b := rv p) (B := 1 / 5) (by grind) (by grind)
  obtain ⟨q, h2, fq, x1, x2⟩ := mulE fw fp (G := 1018) (by decide) s18 (by grind) (by grind)
  obtain ⟨y, h3, fy, y1, y2⟩ := addE hz fq (G := 1021) (by decide) stp_eh (by grind) (by grind)
  refine ⟨zz, y, hzz, ⟨m0, a1, m1, a2, m2, a3, m3, a4, m4, p, w, q, hh, ⟨h1, h2, h3⟩⟩, fy, ?_⟩
  -- the true product, at the computed square
  obtain ⟨d1, d2⟩ := amul (a := rv w - rv z * rv zz) (A := eh / 2) (by grind) (by grind) (b := rv p) (B := 1 / 5) (by grind) (by grind)
  generalize hP : pev [-(750599937895081 / 4503599627370496), (300239975157629 / 36028797018963968 : Rat), -(7320136532877059 / 36893488147419103232), 6506786710177953 / 2361183241434822606848, -(7571123942793053 / 302231454903657293676544), 6149556183080141 / 38685626227668133590597632] (rv zz) = P at p1 p2
  obtain ⟨g1, g2⟩ := amul (a := rv z * rv zz) (A := 1 / 2) (by grind) (by grind) (b := rv p - P) (B := 5 / 2 * eh) (by grind) (by grind)
  have el : pev lS (rv zz) = 1 + rv zz * P := by rw [← hP]; rfl
  -- from the computed square to the true one
  obtain ⟨l1, l2⟩ := pev_lip lS (u := rv zz) (v := rv z * rv z) (d := eh) (by grind) (by grind) (by grind) (by grind) (by grind) (by grind)
  have hl : plip lS ≤ 1 / 5 := by decide +kernel
  have hl' := Rat.mul_le_mul_of_nonneg_right hl e0
  obtain ⟨v1, v2⟩ := amul z1 z2 (b := pev lS (rv zz) - pev lS (rv z * rv z)) (B := eh / 5) (by grind) (by grind)
  have E1 : rv z * pev lS (rv zz) = rv z + rv z * rv zz * P := by rw [el]; grind
  have E2 : rv w * rv p = (rv w - rv z * rv zz) * rv p + rv z * rv zz * (rv p - P) + rv z * rv zz * P := by grind
  have E3 : rv z * (pev lS (rv zz) - pev lS (rv z * rv z)) = rv z * pev lS (rv zz) - rv z * pev lS (rv z * rv z) := by grind
  rw [E1] at E3
  rw [E3] at v1 v2
  clear E1 E3 el hP l1 l2
  generalize rv z * pev lS (rv z * rv z) = R at *
  generalize rv z * rv zz * (rv p - P) = M1 at *
  generalize (rv w - rv z * rv zz) * rv p = M2 at *
  constructor <;> grind

theorem cos_sum {e zz h a q y K M1 M2 R L : Rat} (e0 : 0 ≤ e) (x1 : h ≤ 1 / 2 * zz + e / 2) (x2 : 1 / 2 * zz - e / 2 ≤ h) (a1 : a ≤ 1 - h + e) (a2 : 1 - h - e ≤ a) (r1 : q ≤ M2 + M1 + K + e / 32) (r2 : M2 + M1 + K - e / 32 ≤ q)
    (o1 : y ≤ a + q + e) (o2 : a + q - e ≤ y) (d1 : M2 ≤ e / 2 * (1 / 20)) (d2 : -(e / 2 * (1 / 20)) ≤ M2) (f1 : M1 ≤ 2 / 5 * (5 / 2 * e)) (f2 : -(2 / 5 * (5 / 2 * e)) ≤ M1)
    (l1 : 1 - 1 / 2 * zz + K - R ≤ L) (l2 : -L ≤ 1 - 1 / 2 * zz + K - R) (hl : L ≤ 59 / 100 * (29 / 5 * e)) : y ≤ R + 7 * e ∧ R - 7 * e ≤ y := by
  constructor <;> grind
theorem cosQ {z : Nat} {Z : Rat} (hz : Fin' z) (z1 : rv z ≤ Z + 3 * eh) (z2 : Z - 3 * eh ≤ rv z) (Z1 : Z ≤ -(57 / 100)) (Z2 : -(11 / 14) ≤ Z) : ∃ zz y, floatBits .mul .f64 z z = some zz ∧
    (∃ m0 a1 m1 a2 m2 a3 m3 a4 m4 p h a ww q, CosH zz m0 a1 m1 a2 m2 a3 m3 a4 m4 p ∧ CosP zz h a ww p q y) ∧ Fin' y ∧ rv y ≤ pev lC (Z * Z) + 7 * eh ∧ pev lC (Z * Z) - 7 * eh ≤ rv y := by
  obtain ⟨e0, e1⟩ := eh_small
  have e2 := eh_big
  obtain ⟨zz, hzz, fzz, q0, q1', u1, u2⟩ := sq_near hz (by grind) (by grind)
  -- the squares
  obtain ⟨t1, t2⟩ := amul (a := rv z - Z) (A := 3 * eh) (by grind) (by grind) (b := rv z + Z) (B := 8 / 5) (by grind) (by grind)
  have sqe : (rv z - Z) * (rv z + Z) = rv z * rv z - Z * Z := by grind
  rw [sqe] at t1 t2
  have sqa : Z * Z ≤ 121 / 196 := by
    have : 0 ≤ (11 / 14 - Z) * (11 / 14 + Z) := Rat.mul_nonneg (by grind) (by grind)
    grind
  have sqb : 3249 / 10000 ≤ Z * Z := by
    have : 0 ≤ (-(57 / 100) - Z) * (57 / 100 - Z) := Rat.mul_nonneg (by grind) (by grind)
    grind
  have w1 : rv zz ≤ 5 / 8 := by grind
  have w0 : 3 / 10 ≤ rv zz := by grind
  obtain ⟨m0, a1, m1, a2, m2, a3, m3, a4, m4, p, hh, fp, p1, p2, p3, p4⟩ := horQ (C0 := 1 / 1000000000) (C1 := 1 / 100000000) (C2 := 1 / 1000000) (C3 := 1 / 40000) (C4 := 7 / 5000) (C5 := 209 / 5000) (S := 43 / 990)
    v_c0.2 v_c1.2 v_c2.2 v_c3.2 v_c4.2 v_c5.2 fzz q0 (by grind) (by rw [v_c0.1]; decide +kernel) (by rw [v_c1.1]; decide +kernel) (by rw [v_c2.1]; decide +kernel) (by rw [v_c3.1]; decide +kernel) (by rw [v_c4.1]; decide +kernel) (by rw [v_c5.1]; decide +kernel) (by decide +kernel) (by decide +kernel)
  rw [v_c0.1, v_c1.1, v_c2.1, v_c3.1, v_c4.1, v_c5.1, hp_pev] at p1 p2
  have s20 : stp 1020 = eh / 2 := by rw [stp_val (c := 54) rfl]; decide +kernel
  have s16 : stp 1016 = eh / 32 := by rw [stp_val (c := 58) rfl]; decide +kernel
  have vh : rv half' = 1 / 2 := v_half.1
  obtain ⟨h, g1, fh, x1, x2⟩ := mulE v_half.2 fzz (G := 1020) (by decide) s20 (by rw [vh]; grind) (by rw [vh]; grind)
  rw [show rv 4602678819172646912 = 1 / 2 from vh] at x1 x2
  obtain ⟨a, g2, fa, a1', a2'⟩ := subE v_one.2 fh (G := 1021) (by decide) stp_eh (by rw [rv_one]; grind) (by rw [rv_one]; grind)
  rw [show rv 4607182418800017408 = 1 from rv_one] at a1' a2'
  obtain ⟨b1, b2⟩ := amul (a := rv zz) (A := 5 / 8) w1 (by grind) (b := rv zz) (B := 5 / 8) w1 (by grind)
  obtain ⟨ww, g3, fw, y1, y2⟩ := mulE fzz fzz (G := 1020) (by decide) s20 (by grind) (by grind)
  obtain ⟨c1, c2⟩ := amul (a := rv ww) (A := 2 / 5) (by grind) (by grind) (b := rv p) (B := 1 / 20) (by grind) (by grind)
  obtain ⟨q, g4, fq, r1, r2⟩ := mulE fw fp (G := 1016) (by decide) s16 (by grind) (by grind)
  obtain ⟨y, g5, fy, o1, o2⟩ := addE fa fq (G := 1021) (by decide) stp_eh (by grind) (by grind)
  refine ⟨zz, y, hzz, ⟨m0, a1, m1, a2, m2, a3, m3, a4, m4, p, h, a, ww, q, hh, ⟨g1, g2, g3, g4, g5⟩⟩, fy, ?_⟩
  obtain ⟨d1, d2⟩ := amul (a := rv ww - rv zz * rv zz) (A := eh / 2) (by grind) (by grind) (b := rv p) (B := 1 / 20) (by grind) (by grind)
  generalize hP : pev [(6004799503160651 / 144115188075855872 : Rat), -(6405119470030737 / 4611686018427387904), 7320136533427445 / 295147905179352825856, -(2602714736764387 / 9444732965739290427392), 5047434750082821 / 2417851639229258349412352, -(7030593573755547 / 618970019642690137449562112)] (rv zz) = P at p1 p2
  obtain ⟨f1, f2⟩ := amul (a := rv zz * rv zz) (A := 2 / 5) (by grind) (by grind) (b := rv p - P) (B := 5 / 2 * eh) (by grind) (by grind)
  have el : pev lC (rv zz) = 1 + rv zz * (-(1 / 2) + rv zz * P) := by rw [← hP]; rfl
  obtain ⟨l1, l2⟩ := pev_lip lC (u := rv zz) (v := Z * Z) (d := 29 / 5 * eh) (by grind) (by grind) (by grind) (by grind) (by grind) (by grind)
  have hl : plip lC ≤ 59 / 100 := by decide +kernel
  have hl' := Rat.mul_le_mul_of_nonneg_right hl (show 0 ≤ 29 / 5 * eh by grind)
  have E1 : pev lC (rv zz) = 1 - 1 / 2 * rv zz + rv zz * rv zz * P := by rw [el]; grind
  have E2 : rv ww * rv p = (rv ww - rv zz * rv zz) * rv p + rv zz * rv zz * (rv p - P) + rv zz * rv zz * P := by grind
  rw [E1] at l1 l2
  clear E1 el hP
  rw [E2] at r1 r2
  exact cos_sum e0 x1 x2 a1' a2' r1 r2 o1 o2 d1 d2 f1 f2 l1 l2 hl'

/-! ### The true series as a polynomial, beside the two -/
def tcf : Nat → Rat
  | 0 => 1
  | k + 1 => -(tcf k * tc k)
def tl (n : Nat) : List Rat := (List.range (n + 1)).map tcf
theorem pev_append (p q : List Rat) (u : Rat) : pev (p ++ q) u = pev p u + u ^ p.length * pev q u := by
  induction p with
  | nil => simp only [List.nil_append, pev, List.length_nil, Rat.pow_zero]; grind
  | cons a p ih => simp only [List.cons_append, pev, ih, List.length_cons, Rat.pow_succ]; grind
theorem tT_pow (X : Rat) (k : Nat) : tT X k = X * (tcf k * (X * X) ^ k) := by
  induction k with
  | zero => simp only [tT, tcf, Rat.pow_zero]; grind
  | succ k ih => simp only [tT, tcf, ih, Rat.pow_succ]; grind
theorem tS_pev (X : Rat) (n : Nat) : tS X n = X * pev (tl n) (X * X) := by
  induction n with
  | zero =>
    have e : tl 0 = [1] := rfl
    rw [e]; simp only [tS, pev]; grind
  | succ n ih =>
    have e : tl (n + 1) = tl n ++ [tcf (n + 1)] := by
      unfold tl
      rw [List.range_succ (n := n + 1), List.map_append]; rfl
    have hl : (tl n).length = n + 1 := by simp [tl]
    have e2 : tS X (n + 1) = tS X n + tT X (n + 1) := rfl
    rw [e, pev_append, hl, e2, ih, tT_pow]
    simp only [pev]; grind
/-- The same in the number itself, for its square. -/
def peven : List Rat → List Rat
  | [] => []
  | c :: cs => c :: 0 :: peven cs
theorem pev_even (p : List Rat) (u : Rat) : pev (peven p) u = pev p (u * u) := by
  induction p with
  | nil => rfl
  | cons c cs ih => simp only [peven, pev, ih]; grind
theorem tail_small {X : Rat} (h1 : X ≤ 1) (h2 : -1 ≤ X) (y0 : 0 ≤ X * X) (y1 : X * X ≤ 1) : tS X 14 ≤ tS X 8 + eh / 10 ∧ tS X 8 - eh / 10 ≤ tS X 14 := by
  obtain ⟨a0, a1, a2, a3, a4, a5, a6, a7, a8, a9, a10, a11, a12, a13, a14⟩ := tT_all h1 h2 y0 y1
  have e : tS X 14 = tS X 8 + tT X 9 + tT X 10 + tT X 11 + tT X 12 + tT X 13 + tT X 14 := rfl
  rw [e]
  have p9 : tT X 9 ≤ 3 / 40 * eh := Rat.le_trans a9.1 (by decide +kernel)
  have q9 : -(3 / 40 * eh) ≤ tT X 9 := Rat.le_trans (by decide +kernel) a9.2
  have p10 : tT X 10 ≤ eh / 1000 := Rat.le_trans a10.1 (by decide +kernel)
  have q10 : -(eh / 1000) ≤ tT X 10 := Rat.le_trans (by decide +kernel) a10.2
  have p11 : tT X 11 ≤ eh / 1000 := Rat.le_trans a11.1 (by decide +kernel)
  have q11 : -(eh / 1000) ≤ tT X 11 := Rat.le_trans (by decide +kernel) a11.2
  have p12 : tT X 12 ≤ eh / 1000 := Rat.le_trans a12.1 (by decide +kernel)
  have q12 : -(eh / 1000) ≤ tT X 12 := Rat.le_trans (by decide +kernel) a12.2
  have p13 : tT X 13 ≤ eh / 1000 := Rat.le_trans a13.1 (by decide +kernel)
  have q13 : -(eh / 1000) ≤ tT X 13 := Rat.le_trans (by decide +kernel) a13.2
  have p14 : tT X 14 ≤ eh / 1000 := Rat.le_trans a14.1 (by decide +kernel)
  have q14 : -(eh / 1000) ≤ tT X 14 := Rat.le_trans (by decide +kernel) a14.2
  clear a0 a1 a2 a3 a4 a5 a6 a7 a8 a9 a10 a11 a12 a13 a14 y0 y1 h1 h2 e
  obtain ⟨k0, -⟩ := eh_small
  generalize tT X 9 = T9 at *
  generalize tT X 10 = T10 at *
  generalize tT X 11 = T11 at *
  generalize tT X 12 = T12 at *
  generalize tT X 13 = T13 at *
  generalize tT X 14 = T14 at *
  generalize tS X 8 = S8 at *
  generalize eh = e at *
  constructor <;> grind
end Go.Fl
