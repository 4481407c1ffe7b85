/- The cube root's error at the words. No program in sight. -/
import Derived.Test.YtgaodnflifkaiaaDoorF64T
import Derived.Test.YtgaodnflifkaiaaDoorF64V
import Derived.Test.YtgaodnflifkaiaaDoorF64Y
namespace Go.Fl
open Ieee
set_option linter.unusedVariables false

/-! ### The rough root -/
def kap : Nat := 4354697406185472
def sLo (i a : Nat) : Nat := kap + (i * 2 ^ 52 + a * 2 ^ 48) / 3
def sHi (i a : Nat) : Nat := kap + (i * 2 ^ 52 + (a + 1) * 2 ^ 48) / 3 + 1
def cub (n : Nat) : Nat := n * n * n
theorem cub_le {m n : Nat} (h : m ≤ n) : cub m ≤ cub n := Nat.mul_le_mul (Nat.mul_le_mul h h) h
theorem cub_mul (m g : Nat) : m * g * (m * g) * (m * g) = cub m * (g * g * g) := by unfold cub; ac_rfl
def chkA (i a : Nat) : Bool := decide (4 * ((17 + a) * 2 ^ 48 * 2 ^ (i + 107)) ≤ 5 * cub (2 ^ 52 + sLo i a)) && decide (5 * cub (2 ^ 52 + min (sHi i a) (2 ^ 52)) ≤ 6 * ((16 + a) * 2 ^ 48 * 2 ^ (i + 107)))
def chkB (i a : Nat) : Bool := decide (4 * ((17 + a) * 2 ^ 48 * 2 ^ (i + 104)) ≤ 5 * cub (max (sLo i a) (2 ^ 52))) && decide (5 * cub (sHi i a) ≤ 6 * ((16 + a) * 2 ^ 48 * 2 ^ (i + 104)))
theorem chk_all : ∀ i : Fin 3, ∀ a : Fin 16, (decide (sLo i a < 2 ^ 52) = false ∨ chkA i a = true) ∧ (decide (2 ^ 52 ≤ sHi i a) = false ∨ chkB i a = true) := by decide +kernel
theorem chk_A {i a : Nat} (hi : i < 3) (ha : a < 16) (h : sLo i a < 2 ^ 52) : 4 * ((17 + a) * 2 ^ 48 * 2 ^ (i + 107)) ≤ 5 * cub (2 ^ 52 + sLo i a) ∧ 5 * cub (2 ^ 52 + min (sHi i a) (2 ^ 52)) ≤ 6 * ((16 + a) * 2 ^ 48 * 2 ^ (i + 107)) := by
  have hc : chkA i a = true := by
    rcases (chk_all ⟨i, hi⟩ ⟨a, ha⟩).1 with h' | h'
    · rw [decide_eq_true h] at h'; cases h'
    · exact h'
  unfold chkA at hc
  rw [Bool.and_eq_true] at hc
  exact ⟨of_decide_eq_true hc.1, of_decide_eq_true hc.2⟩
theorem chk_B {i a : Nat} (hi : i < 3) (ha : a < 16) (h : 2 ^ 52 ≤ sHi i a) : 4 * ((17 + a) * 2 ^ 48 * 2 ^ (i + 104)) ≤ 5 * cub (max (sLo i a) (2 ^ 52)) ∧ 5 * cub (sHi i a) ≤ 6 * ((16 + a) * 2 ^ 48 * 2 ^ (i + 104)) := by
  have hc : chkB i a = true := by
    rcases (chk_all ⟨i, hi⟩ ⟨a, ha⟩).2 with h' | h'
    · rw [decide_eq_true h] at h'; cases h'
    · exact h'
  unfold chkB at hc
  rw [Bool.and_eq_true] at hc
  exact ⟨of_decide_eq_true hc.1, of_decide_eq_true hc.2⟩
theorem seg_lo {A B M m : Nat} (h1 : A ≤ B) (h2 : 4 * B ≤ 5 * m) (h3 : m ≤ M) : 4 * A ≤ 5 * M := by omega
theorem seg_hi {A B M m : Nat} (h1 : B ≤ A) (h2 : 5 * m ≤ 6 * B) (h3 : M ≤ m) : 5 * M ≤ 6 * A := by omega
theorem seg_scale {A M G : Nat} (h : 4 * A ≤ 5 * M) : 4 * (A * G) ≤ 5 * (M * G) := by
  rw [← Nat.mul_assoc, ← Nat.mul_assoc]; exact Nat.mul_le_mul_right _ h
theorem seg_scale' {A M G : Nat} (h : 5 * M ≤ 6 * A) : 5 * (M * G) ≤ 6 * (A * G) := by
  rw [← Nat.mul_assoc, ← Nat.mul_assoc]; exact Nat.mul_le_mul_right _ h
theorem scale_mag (P n b u v : Nat) (h : n + (b + b) = u + (v + v + v)) : P * 2 ^ n * (2 ^ b * 2 ^ b) = P * 2 ^ u * (2 ^ v * 2 ^ v * 2 ^ v) := by
  rw [← Nat.pow_add 2 v v, ← Nat.pow_add 2 (v + v) v, ← Nat.pow_add 2 b b, Nat.mul_assoc, Nat.mul_assoc, ← Nat.pow_add, ← Nat.pow_add, h]
theorem magT {T0 l c c' : Nat} (h : T0 = (c + 1) * 2 ^ 52 + l) (hl : l < 2 ^ 53) (hc' : c' = c + 1) : (l < 2 ^ 52 → mag T0 = (2 ^ 52 + l) * 2 ^ c) ∧ (¬ l < 2 ^ 52 → mag T0 = l * 2 ^ c') := by
  constructor
  · intro hc
    rw [mag_normal (e := c) (by omega), show T0 % 2 ^ 52 = l by omega]
  · intro hc
    rw [mag_normal (e := c') (by omega), show 2 ^ 52 + T0 % 2 ^ 52 = l by omega]
theorem rough_cube {x T0 : Nat} (h52 : 2 ^ 52 ≤ x) (hx : x < infR) (hT : T0 = x / 3 + 3071306043645493248) {b : Nat} (hb : b = 1074) :
    4 * (mag x * (2 ^ b * 2 ^ b)) ≤ 5 * (mag T0 * mag T0 * mag T0) ∧ 5 * (mag T0 * mag T0 * mag T0) ≤ 6 * (mag x * (2 ^ b * 2 ^ b)) := by
  obtain ⟨j, i, hi, he⟩ : ∃ j i, i < 3 ∧ x / 2 ^ 52 = 3 * j + i := ⟨x / 2 ^ 52 / 3, x / 2 ^ 52 % 3, by omega, by omega⟩
  obtain ⟨p, hp, hxe⟩ : ∃ p, p < 2 ^ 52 ∧ x = (3 * j + i) * 2 ^ 52 + p := ⟨x % 2 ^ 52, by omega, by omega⟩
  obtain ⟨a, hpa, hpb⟩ : ∃ a, a * 2 ^ 48 ≤ p ∧ p < (a + 1) * 2 ^ 48 := ⟨p / 2 ^ 48, by omega, by omega⟩
  have ha : a < 16 := by omega
  obtain ⟨l, hl, hl1, hl2⟩ : ∃ l, T0 = (j + 681) * 2 ^ 52 + l ∧ sLo i a ≤ l ∧ l ≤ sHi i a := ⟨kap + (i * 2 ^ 52 + p) / 3, by unfold kap; omega, by unfold sLo; omega, by unfold sHi; omega⟩
  have hl3 : l < 2 ^ 53 := by unfold sHi kap at hl2; omega
  obtain ⟨n, hn⟩ : ∃ n, 3 * j + i = n + 1 := ⟨3 * j + i - 1, by omega⟩
  have hmag : mag x = (2 ^ 52 + p) * 2 ^ n := by
    have e1 : x / 2 ^ 52 = n + 1 := by omega
    have e2 : x % 2 ^ 52 = p := by omega
    rw [mag_normal e1, e2]
  have hq1 : 2 ^ 52 + p ≤ (17 + a) * 2 ^ 48 := by clear hT hx hl hl1 hl2 hmag; omega
  have hq2 : (16 + a) * 2 ^ 48 ≤ 2 ^ 52 + p := by
    rw [Nat.add_mul, show 16 * 2 ^ 48 = 2 ^ 52 by decide]; exact Nat.add_le_add_left hpa _
  have eE : n + (b + b) = i + 107 + (j + 680 + (j + 680) + (j + 680)) := by clear hT hx hl hl1 hl2 hmag hxe he hpa hpb hp h52 hq1 hq2; omega
  have eF : n + (b + b) = i + 104 + (j + 681 + (j + 681) + (j + 681)) := eE.trans (by clear eE hT hx hl hl1 hl2 hmag hxe he hpa hpb hp h52 hq1 hq2; omega)
  have hmT := magT (T0 := T0) (l := l) (c := j + 680) (c' := j + 681) (by rw [hl]) hl3 (by omega)
  clear hxe he hpa hpb hl hn h52 hx hT hb hp
  by_cases hc : l < 2 ^ 52
  · obtain ⟨c1, c2⟩ := chk_A hi ha (Nat.lt_of_le_of_lt hl1 hc)
    have hmx : mag x * (2 ^ b * 2 ^ b) = (2 ^ 52 + p) * 2 ^ (i + 107) * (2 ^ (j + 680) * 2 ^ (j + 680) * 2 ^ (j + 680)) := by
      rw [hmag]; exact scale_mag _ _ _ _ _ eE
    rw [hmx, hmT.1 hc, cub_mul]
    have m1 : cub (2 ^ 52 + sLo i a) ≤ cub (2 ^ 52 + l) := cub_le (Nat.add_le_add_left hl1 _)
    have m2 : cub (2 ^ 52 + l) ≤ cub (2 ^ 52 + min (sHi i a) (2 ^ 52)) := cub_le (Nat.add_le_add_left (Nat.le_min.2 ⟨hl2, Nat.le_of_lt hc⟩) _)
    exact ⟨seg_scale (seg_lo (Nat.mul_le_mul_right _ hq1) c1 m1), seg_scale' (seg_hi (Nat.mul_le_mul_right _ hq2) c2 m2)⟩
  · obtain ⟨c1, c2⟩ := chk_B hi ha (Nat.le_trans (Nat.le_of_not_lt hc) hl2)
    have hmx : mag x * (2 ^ b * 2 ^ b) = (2 ^ 52 + p) * 2 ^ (i + 104) * (2 ^ (j + 681) * 2 ^ (j + 681) * 2 ^ (j + 681)) := by
      rw [hmag]; exact scale_mag _ _ _ _ _ eF
    rw [hmx, hmT.2 hc, cub_mul]
    have m1 : cub (max (sLo i a) (2 ^ 52)) ≤ cub l := cub_le (Nat.max_le.2 ⟨hl1, Nat.le_of_not_lt hc⟩)
    have m2 : cub l ≤ cub (sHi i a) := cub_le hl2
    exact ⟨seg_scale (seg_lo (Nat.mul_le_mul_right _ hq1) c1 m1), seg_scale' (seg_hi (Nat.mul_le_mul_right _ hq2) c2 m2)⟩

/-! ### The first betterment -/
theorem pick {o : Option Nat} {a b : Nat} (h : o = some a) (k : o = some b) : b = a := by rw [h] at k; exact (Option.some.inj k).symm
theorem rv_self {x : Nat} (h : x < infR) : rv x = (mag x : Rat) / ur := by unfold rv; rw [val_self h]; rfl
theorem ep_eq : ep = Rt.ep := rfl
theorem In.rv_pos {x A B : Nat} (h : In x A B) : 0 < rv x := Fl.rv_pos h.pos
theorem rpow_add (e c : Nat) : (2 : Rat) ^ (e + c) = (2 : Rat) ^ e * (2 : Rat) ^ c := by
  have h := congrArg (fun n : Nat => (n : Rat)) (Nat.pow_add 2 e c)
  simpa using h
/-- A constant's value. -/
theorem rv_const {x e : Nat} {c : Nat} (h : x < infR) (he : x / 2 ^ 52 = e + 1) (hc : e + c = 1074) : rv x = ((2 ^ 52 + x % 2 ^ 52 : Nat) : Rat) / (2 : Rat) ^ c := by
  rw [rv_self h, mag_normal he]
  have h1 : ur = (2 : Rat) ^ e * (2 : Rat) ^ c := by unfold ur; rw [← rpow_add, hc]; rfl
  have h2 : (0 : Rat) < (2 : Rat) ^ e := Rat.pow_pos (by decide)
  have h3 : (0 : Rat) < (2 : Rat) ^ c := Rat.pow_pos (by decide)
  rw [h1]
  have h4 : (((2 ^ 52 + x % 2 ^ 52) * 2 ^ e : Nat) : Rat) = ((2 ^ 52 + x % 2 ^ 52 : Nat) : Rat) * (2 : Rat) ^ e := by push_cast; rfl
  rw [h4]
  grind
theorem rC : rv cC = Rt.kC := by
  rw [rv_const (e := 1021) (c := 53) (by decide) (by decide) (by decide)]; unfold Rt.kC; decide +kernel
theorem rE : rv cE = Rt.kE := by
  rw [rv_const (e := 1022) (c := 52) (by decide) (by decide) (by decide)]; unfold Rt.kE; decide +kernel
theorem rF : rv cF = Rt.kF := by
  rw [rv_const (e := 1022) (c := 52) (by decide) (by decide) (by decide)]; unfold Rt.kF; decide +kernel
theorem rG : rv cG = Rt.kG := by
  rw [rv_const (e := 1020) (c := 54) (by decide) (by decide) (by decide)]; unfold Rt.kG; decide +kernel
theorem rD : rv 4604528052325763124 = Rt.kD := by
  rw [rv_const (e := 1021) (c := 53) (by decide) (by decide) (by decide)]; unfold Rt.kD; decide +kernel
theorem inD : In 4604528052325763124 1073 1074 := in_normal (e := 1021) (by decide) (by decide)

/-- Where the words of the first betterment lie. -/
structure CbAIn (Q a1 r b1 s c1 c2 c3 c4 c5 t1 : Nat) : Prop where
  i1 : In a1 (2 * Q - 1074) (2 * Q + 4 - 1074)
  i2 : In r (2142 - Q) (2149 - Q)
  i3 : In b1 1068 1077
  i4 : In s 1073 1078
  i5 : In c1 1074 1079
  i7 : In c3 1072 1079
  i8 : In c4 1069 1077
  i9 : In c5 1072 1078
  i10 : In t1 (Q - 2) (Q + 6)
  fc2 : rung c2 < infR
theorem cbA_in {x T0 P Q a1 r b1 s c1 c2 c3 c4 c5 t1 : Nat} (hx : In x P (P + 3)) (hT : In T0 Q (Q + 2)) (hPQ : 3 * Q = P + 2145) (q1 : 715 ≤ Q) (q2 : Q ≤ 1414) (h : CbA x T0 a1 r b1 s c1 c2 c3 c4 c5 t1) : CbAIn Q a1 r b1 s c1 c2 c3 c4 c5 t1 := by
  obtain ⟨u, hu⟩ : ∃ u, u = 1074 := ⟨_, rfl⟩
  obtain ⟨z, e1, i1⟩ := hT.mul hT hu (E := 2 * Q - 1074) (F := 2 * Q + 4 - 1074) (by omega) (by omega) (by omega)
  obtain rfl := pick e1 h.e1
  obtain ⟨z, e2, i2⟩ := i1.quo hx hu (E := 2142 - Q) (F := 2149 - Q) (by omega) (by omega) (by omega)
  obtain rfl := pick e2 h.e2
  obtain ⟨z, e3, i3⟩ := i2.mul hT hu (E := 1068) (F := 1077) (by omega) (by omega) (by omega)
  obtain rfl := pick e3 h.e3
  obtain ⟨z, e4, i4, hCs, _, _⟩ := inC.add i3 (F := 1078) (by omega) (by omega) (by omega)
  obtain rfl := pick e4 h.e4
  obtain ⟨z, e5, i5, _, _, m5⟩ := i4.add inE (F := 1079) (by omega) (by omega) (by omega)
  obtain rfl := pick e5 h.e5
  have g5 := c1_ge i4.fin hCs i5.fin m5
  have i5' : In c1 1074 1079 := by
    obtain ⟨v, hv⟩ : ∃ v, v = 1020 := ⟨_, rfl⟩
    refine ⟨i5.fin, ?_, i5.hi⟩
    have h2 := mag_le g5
    rw [(one75 hv).2, (pow_succ2 v).2] at h2
    rw [show 1074 = 54 + v by omega, Nat.pow_add]
    generalize 2 ^ v = G at *
    omega
  obtain ⟨z, e6, m6⟩ := quo_mono (x := cD) (y := s) (by decide) (rung_fin i4.fin) i4.pos hu
  obtain rfl := pick e6 h.e6
  obtain ⟨k2, k1, f6⟩ := c2_fin hu i4.fin hCs m6
  obtain ⟨z, e7, m7⟩ := add_mono (rung_fin i5.fin) f6
  obtain rfl := pick e7 h.e7
  have i7 := c3_in i5' g5 k2 k1 m7
  obtain ⟨z, e8, i8⟩ := inF.quo i7 hu (E := 1069) (F := 1077) (by omega) (by omega) (by omega)
  obtain rfl := pick e8 h.e8
  obtain ⟨z, e9, i9, _⟩ := inG.add i8 (F := 1078) (by omega) (by omega) (by omega)
  obtain rfl := pick e9 h.e9
  obtain ⟨z, e10, i10⟩ := hT.mul i9 hu (E := Q - 2) (F := Q + 6) (by omega) (by omega) (by omega)
  obtain rfl := pick e10 h.e10
  exact ⟨i1, i2, i3, i4, i5', i7, i8, i9, i10, f6⟩

/-- D / s: a negative quotient. -/
theorem c2_rv {s c2 A B : Nat} (hs : In s A B) (hA : A = 1073) (hB : B = 1078) (h : floatBits .quo .f64 cD s = some c2) : 0 ≤ -rv c2 ∧ -rv c2 * rv s ≤ (1 + ep) * Rt.kD ∧ (1 - ep) * Rt.kD ≤ -rv c2 * rv s := by
  obtain ⟨c, h', hm⟩ := quo_mono (x := cD) (y := s) (by decide) (rung_fin hs.fin) hs.pos ub_eq
  obtain rfl := pick h' h
  have hD : val cD = -val 4604528052325763124 := by
    unfold val
    rw [show rung cD = 4604528052325763124 by decide, show neg cD = true by decide, rung_self inD.fin, neg_self inD.fin]
    simp
  have hf := hm.flip
  rw [hD, Int.neg_mul, Int.neg_neg] at hf
  have hub := ub_eq
  obtain ⟨A', B', hA', hB', iD⟩ : ∃ A' B', A' = 1073 ∧ B' = 1074 ∧ In 4604528052325763124 A' B' := ⟨_, _, rfl, rfl, inD⟩
  have l1 : (2 : Int) ^ 52 * val s ≤ val 4604528052325763124 * 2 ^ ub := by
    rw [val_self hs.fin, val_self inD.fin, cast_pow, cast_pow]
    have h1 : 2 ^ 52 * mag s ≤ 2 ^ 52 * 2 ^ B := Nat.mul_le_mul_left _ hs.hi
    have h2 : 2 ^ A' * 2 ^ ub ≤ mag 4604528052325763124 * 2 ^ ub := Nat.mul_le_mul_right _ iD.lo
    have h3 : 2 ^ 52 * 2 ^ B ≤ 2 ^ A' * 2 ^ ub := by rw [← Nat.pow_add, ← Nat.pow_add]; exact Nat.pow_le_pow_right (by decide) (by omega)
    exact_mod_cast Nat.le_trans h1 (Nat.le_trans h3 h2)
  obtain ⟨g, hg⟩ : ∃ g, g = 2000 := ⟨_, rfl⟩
  have l2 : val 4604528052325763124 * 2 ^ ub < 2 ^ 53 * (2 ^ g * val s) := by
    rw [val_self hs.fin, val_self inD.fin, cast_pow, cast_pow, cast_pow]
    have h1 : mag 4604528052325763124 * 2 ^ ub ≤ 2 ^ B' * 2 ^ ub := Nat.mul_le_mul_right _ iD.hi
    have h2 : 2 ^ 53 * (2 ^ g * 2 ^ A) ≤ 2 ^ 53 * (2 ^ g * mag s) := Nat.mul_le_mul_left _ (Nat.mul_le_mul_left _ hs.lo)
    have h3 : 2 ^ B' * 2 ^ ub < 2 ^ 53 * (2 ^ g * 2 ^ A) := by rw [← Nat.pow_add, ← Nat.pow_add, ← Nat.pow_add]; exact Nat.pow_lt_pow_right (by decide) (by omega)
    exact_mod_cast Nat.lt_of_le_of_lt h1 (Nat.lt_of_lt_of_le h3 h2)
  obtain ⟨n1, n2, _⟩ := near_pos hf hs.pos l1 (B := g) (by omega) l2
  obtain ⟨m1, m2⟩ := near_rat n1 n2
  have hu := ur_pos
  have e1 : (((2 : Int) ^ ub : Int) : Rat) = ur := cast_pow2 ub
  rw [Rat.intCast_mul, rv_ur 4604528052325763124, rv_ur s, rv_ur (Op.negFloat .f64 c2), e1, rD] at m1 m2
  have hn : rv (Op.negFloat .f64 c2) = -rv c2 := by
    unfold rv
    have : val (Op.negFloat .f64 c2) = -val c2 := by
      unfold val; rw [neg_neg hm.lt, rung_neg hm.lt]
      cases neg c2 <;> simp
    rw [this, Rat.intCast_neg]; grind
  rw [hn] at m1 m2
  have hu2 : 0 < ur * ur := Rat.mul_pos hu hu
  have r1 : -rv c2 * rv s ≤ (1 + ep) * Rt.kD := by
    refine rle_cancel hu2 ?_
    grind
  have r2 : (1 - ep) * Rt.kD ≤ -rv c2 * rv s := by
    refine rle_cancel hu2 ?_
    grind
  have ps := hs.rv_pos
  refine ⟨?_, r1, r2⟩
  refine rle_cancel ps ?_
  have : (0 : Rat) ≤ (1 - ep) * Rt.kD := by rw [ep_eq]; unfold Rt.kD; grind
  grind
/-- A sum of a positive word and a word that leaves it great. -/
theorem add_rv' {x y r A B : Nat} (hx : In x A B) (hy : rung y < infR) (hB : B ≤ 2000) (hyn : val y ≤ 0) (hlow : (2 : Int) ^ 52 ≤ val x + val y) (h : floatBits .add .f64 x y = some r) : rv r ≤ (1 + ep) * (rv x + rv y) ∧ (1 - ep) * (rv x + rv y) ≤ rv r := by
  obtain ⟨r', h', hm⟩ := add_mono (rung_fin hx.fin) hy
  obtain rfl : r = r' := by rw [h] at h'; exact Option.some.inj h'
  obtain ⟨g, hg⟩ : ∃ g, g = 2000 := ⟨_, rfl⟩
  have l2 : val x + val y < 2 ^ 53 * (2 ^ g * 1) := by
    rw [val_self hx.fin]
    have h1 : 2 ^ B ≤ 2 ^ g := Nat.pow_le_pow_right (by decide) (by omega)
    have := hx.hi
    rw [cast_pow g]
    have h3 : 0 < 2 ^ g := Nat.two_pow_pos _
    generalize 2 ^ g = G at *
    omega
  obtain ⟨n1, n2, _⟩ := near_pos hm (by decide) (by rw [Int.mul_one]; exact hlow) (B := g) (by omega) l2
  obtain ⟨m1, m2⟩ := near_rat n1 n2
  rw [Rat.intCast_add, rv_ur x, rv_ur y, rv_ur r] at m1 m2
  have hu := ur_pos
  have one : ((1 : Int) : Rat) = 1 := rfl
  rw [one] at m1 m2
  constructor
  · refine rle_cancel hu ?_
    grind
  · refine rle_cancel hu ?_
    grind

theorem low_sum {x y r A B E F : Nat} (hx : In x A B) (hy : rung y < infR) (hr : In r E F) (hE : 53 ≤ E) (h : floatBits .add .f64 x y = some r) : (2 : Int) ^ 52 ≤ val x + val y := by
  obtain ⟨r', h', hm⟩ := add_mono (rung_fin hx.fin) hy
  obtain rfl : r = r' := by rw [h] at h'; exact Option.some.inj h'
  obtain ⟨z, hz, ez⟩ := exists_rung 1 52 (by decide) (by decide)
  apply Int.le_of_not_gt
  intro hlt
  have k := hm.le z (rung_fin hz) (by rw [val_self hz, ez]; omega)
  rw [key_self hz, key_self hr.fin] at k
  have h1 := mag_le (show r ≤ z by omega)
  have h2 := hr.lo
  have h3 : 2 ^ 53 ≤ 2 ^ E := Nat.pow_le_pow_right (by decide) hE
  rw [ez] at h1
  omega
namespace Rt
theorem mul_le' {a b c d : Rat} (ha : 0 ≤ a) (h : a ≤ b) (hc : 0 ≤ c) (k : c ≤ d) : a * c ≤ b * d :=
  Rat.le_trans (Rat.mul_le_mul_of_nonneg_right h hc) (Rat.mul_le_mul_of_nonneg_left k (Rat.le_trans ha h))
/-- The root's estimate y of the number one, out of three roundings. -/
theorem stage0 {X T A R b y : Rat} (X0 : 0 < X) (T0 : 0 < T) (hy : y * X = T * T * T) (y1 : 5 * (T * T * T) ≤ 6 * X) (y2 : 4 * X ≤ 5 * (T * T * T))
    (m1 : A ≤ (1 + ep) * (T * T)) (m2 : (1 - ep) * (T * T) ≤ A) (m3 : R * X ≤ (1 + ep) * A) (m4 : (1 - ep) * A ≤ R * X) (m5 : b ≤ (1 + ep) * (R * T)) (m6 : (1 - ep) * (R * T) ≤ b) :
    y ≤ 6 / 5 ∧ 4 / 5 ≤ y ∧ b ≤ y + 5 * ep ∧ y - 5 * ep ≤ b := by
  have T0' := Rat.le_of_lt T0
  have X0' := Rat.le_of_lt X0
  have p1 := Rat.mul_le_mul_of_nonneg_right m1 T0'
  have p2 := Rat.mul_le_mul_of_nonneg_right m2 T0'
  have p3 := Rat.mul_le_mul_of_nonneg_right m3 T0'
  have p4 := Rat.mul_le_mul_of_nonneg_right m4 T0'
  have p5 := Rat.mul_le_mul_of_nonneg_right m5 X0'
  have p6 := Rat.mul_le_mul_of_nonneg_right m6 X0'
  obtain ⟨C, hC⟩ : ∃ C : Rat, C = T * T * T := ⟨_, rfl⟩
  obtain ⟨U, hU⟩ : ∃ U : Rat, U = R * X * T := ⟨_, rfl⟩
  obtain ⟨W, hW⟩ : ∃ W : Rat, W = A * T := ⟨_, rfl⟩
  have r1 : W ≤ (1 + ep) * C := by grind
  have r2 : (1 - ep) * C ≤ W := by grind
  have r3 : U ≤ (1 + ep) * W := by grind
  have r4 : (1 - ep) * W ≤ U := by grind
  have r5 : b * X ≤ (1 + ep) * U := by grind
  have r6 : (1 - ep) * U ≤ b * X := by grind
  rw [← hC] at hy y1 y2
  clear p1 p2 p3 p4 p5 p6 m1 m2 m3 m4 m5 m6 hC hU hW
  refine ⟨le_of_mul X0 (by rw [hy]; grind), le_of_mul X0 (by rw [hy]; grind), le_of_mul X0 ?_, le_of_mul X0 ?_⟩
  · have : (y + 5 * ep) * X = C + 5 * ep * X := by rw [← hy]; grind
    rw [this]; grind
  · have : (y - 5 * ep) * X = C - 5 * ep * X := by rw [← hy]; grind
    rw [this]; grind
/-- The cube of the bettered root. -/
theorem stage1c {X T y g c t : Rat} (X0 : 0 < X) (T0 : 0 < T) (hy : y * X = T * T * T) (y1 : y ≤ 6 / 5) (y2 : 4 / 5 ≤ y) (p1 : y * (g * g * g) - 1 ≤ 1 / 240000) (p2 : 1 - y * (g * g * g) ≤ 1 / 240000) (g1 : g ≤ 11 / 10) (g2 : 9 / 10 ≤ g)
    (c1 : c - g ≤ 40 * ep) (c2 : g - c ≤ 40 * ep) (t1 : t ≤ (1 + ep) * (T * c)) (t2 : (1 - ep) * (T * c) ≤ t) : t * t * t ≤ (1 + 1 / 200000) * X ∧ (1 - 1 / 200000) * X ≤ t * t * t := by
  -- c's cube
  obtain ⟨d, hd⟩ : ∃ d : Rat, d = c - g := ⟨_, rfl⟩
  have d1 : d ≤ 40 * ep := by grind
  have d2 : -(40 * ep) ≤ d := by grind
  obtain ⟨a1, a2⟩ := prod_le (a := g) (b := g) (A := 11 / 10) (B := 11 / 10) g1 (by grind) g1 (by grind)
  obtain ⟨a3, a4⟩ := prod_le (a := g) (b := d) (A := 11 / 10) (B := 40 * ep) g1 (by grind) d1 d2
  obtain ⟨a5, a6⟩ := prod_le d1 d2 d1 d2
  obtain ⟨h, hh⟩ : ∃ h : Rat, h = 3 * (g * g) + 3 * (g * d) + d * d := ⟨_, rfl⟩
  obtain ⟨b1, b2⟩ := prod_le (a := d) (b := h) (A := 40 * ep) (B := 4) d1 d2 (by grind) (by grind)
  have e1 : c * c * c = g * g * g + d * h := by
    have : c = g + d := by grind
    rw [this, hh]; grind
  obtain ⟨b3, b4⟩ := prod_le (a := y) (b := d * h) (A := 6 / 5) (B := 40 * ep * 4) y1 (by grind) b1 b2
  have k1 : y * (c * c * c) ≤ 1 + 1 / 230000 := by rw [e1]; grind
  have k2 : 1 - 1 / 230000 ≤ y * (c * c * c) := by rw [e1]; grind
  -- t's cube
  have c0 : 0 < c := by grind
  obtain ⟨m, hm⟩ : ∃ m : Rat, m = T * c := ⟨_, rfl⟩
  have m0 : 0 < m := by rw [hm]; exact Rat.mul_pos T0 c0
  rw [← hm] at t1 t2
  have t0 : 0 < t := by grind
  have t0' := Rat.le_of_lt t0
  have m0' := Rat.le_of_lt m0
  obtain ⟨M, hM⟩ : ∃ M : Rat, M = m * m * m := ⟨_, rfl⟩
  have hMX : M = y * (c * c * c) * X := by
    have : y * (c * c * c) * X = y * X * (c * c * c) := by grind
    rw [hM, hm, this, hy]; grind
  have u1 : t * t ≤ (1 + ep) * m * ((1 + ep) * m) := mul_le' t0' t1 t0' t1
  have u2 : (1 - ep) * m * ((1 - ep) * m) ≤ t * t := mul_le' (by grind) t2 (by grind) t2
  have u3 : t * t * t ≤ (1 + ep) * m * ((1 + ep) * m) * ((1 + ep) * m) := mul_le' (Rat.mul_nonneg t0' t0') u1 t0' t1
  have u4 : (1 - ep) * m * ((1 - ep) * m) * ((1 - ep) * m) ≤ t * t * t := mul_le' (Rat.mul_nonneg (by grind) (by grind)) u2 (by grind) t2
  have v1 : (1 + ep) * m * ((1 + ep) * m) * ((1 + ep) * m) = (1 + ep) * (1 + ep) * (1 + ep) * M := by rw [hM]; grind
  have v2 : (1 - ep) * m * ((1 - ep) * m) * ((1 - ep) * m) = (1 - ep) * (1 - ep) * (1 - ep) * M := by rw [hM]; grind
  have X0' := Rat.le_of_lt X0
  have w1 : M ≤ (1 + 1 / 230000) * X := by rw [hMX]; exact Rat.mul_le_mul_of_nonneg_right k1 X0'
  have w2 : (1 - 1 / 230000) * X ≤ M := by rw [hMX]; exact Rat.mul_le_mul_of_nonneg_right k2 X0'
  rw [v1] at u3
  rw [v2] at u4
  clear hMX v1 v2 hM
  constructor <;> grind
end Rt
/-- The first betterment is good to one part in 2 ^ 17. -/
theorem cbA_near {x T0 P Q a1 r b1 s c1 c2 c3 c4 c5 t1 : Nat} (hx : In x P (P + 3)) (hT : In T0 Q (Q + 2)) (hPQ : 3 * Q = P + 2145) (q1 : 715 ≤ Q) (q2 : Q ≤ 1414) (h : CbA x T0 a1 r b1 s c1 c2 c3 c4 c5 t1)
    (y1 : 5 * (rv T0 * rv T0 * rv T0) ≤ 6 * rv x) (y2 : 4 * rv x ≤ 5 * (rv T0 * rv T0 * rv T0)) : rv t1 * rv t1 * rv t1 ≤ (1 + 1 / 200000) * rv x ∧ (1 - 1 / 200000) * rv x ≤ rv t1 * rv t1 * rv t1 := by
  have I := cbA_in hx hT hPQ q1 q2 h
  have X0 := hx.rv_pos
  have T00 := hT.rv_pos
  obtain ⟨m1, m2⟩ := mul_rv hT hT (by omega) (by omega) h.e1
  obtain ⟨m3, m4⟩ := quo_rv I.i1 hx (by omega) (by omega) h.e2
  obtain ⟨m5, m6⟩ := mul_rv I.i2 hT (by omega) (by omega) h.e3
  obtain ⟨s1, s2⟩ := add_rv inC I.i3 (by omega) (by omega) (by omega) h.e4
  obtain ⟨d1, d2⟩ := add_rv I.i4 inE (by omega) (by omega) (by omega) h.e5
  obtain ⟨k0, k1, k2⟩ := c2_rv I.i4 rfl rfl h.e6
  have vc2 : val c2 ≤ 0 := by
    have h1 : (val c2 : Rat) ≤ ((0 : Int) : Rat) := by
      rw [rv_ur c2]
      have := Rat.mul_nonneg k0 (Rat.le_of_lt ur_pos)
      have z : ((0 : Int) : Rat) = 0 := rfl
      rw [z]; grind
    exact Rat.intCast_le_intCast.1 h1
  obtain ⟨g1, g2⟩ := add_rv' I.i5 I.fc2 (by omega) vc2 (low_sum I.i5 I.fc2 I.i7 (by omega) h.e7) h.e7
  obtain ⟨w1, w2⟩ := quo_rv inF I.i7 (by omega) (by omega) h.e8
  obtain ⟨v1, v2⟩ := add_rv inG I.i8 (by omega) (by omega) (by omega) h.e9
  obtain ⟨t1a, t1b⟩ := mul_rv hT I.i9 (by omega) (by omega) h.e10
  rw [ep_eq] at *
  obtain ⟨y, hy⟩ : ∃ y : Rat, y * rv x = rv T0 * rv T0 * rv T0 := ⟨rv T0 * rv T0 * rv T0 / rv x, by grind⟩
  obtain ⟨z1, z2, z3, z4⟩ := Rt.stage0 X0 T00 hy y1 y2 m1 m2 m3 m4 m5 m6
  rw [rC] at s1 s2
  rw [rE] at d1 d2
  rw [rF] at w1 w2
  rw [rG] at v1 v2
  have hc4 := I.i8.rv_pos
  obtain ⟨g, hg, g3, g4⟩ := Rt.stage1 z1 z2 z3 z4 s1 s2 d1 d2 k0 k1 k2 (by grind) (by grind) (Rat.le_of_lt hc4) w1 w2 v1 v2
  obtain ⟨p1, p2, p3, p4⟩ := Rt.pade z1 z2 hg
  exact Rt.stage1c X0 T00 hy z1 z2 p1 p2 p3 p4 g3 g4 t1a t1b

/-! ### The second betterment -/
theorem chopA (p : Nat) : 1048576 * (2 ^ 52 + (p + 2 ^ 30)) ≤ 1048577 * (2 ^ 52 + p) := by omega
theorem chopB (p : Nat) (h : 2 ^ 52 ≤ p + 2 ^ 30) (h2 : p < 2 ^ 52) : 1048576 * ((2 ^ 52 + (p + 2 ^ 30 - 2 ^ 52)) * 2) ≤ 1048577 * (2 ^ 52 + p) := by omega
theorem dmul (a : Rat) {u : Rat} (hu : 0 < u) : a / u * u = a := by grind
theorem rdiv1 {a b u : Rat} (hu : 0 < u) (h : a ≤ b) : a / u ≤ b / u := by
  refine rle_cancel hu ?_
  rw [dmul a hu, dmul b hu]; exact h
theorem rdiv2 {a b u : Rat} (hu : 0 < u) (h : 1048576 * b ≤ 1048577 * a) : b / u ≤ (1 + 1 / 1048576) * (a / u) := by
  refine rle_cancel hu ?_
  rw [dmul b hu, Rat.mul_assoc, dmul a hu]; grind
theorem chop_near {t1 A B : Nat} (h : In t1 A B) (hA : 60 ≤ A) (h2 : t1 / 2 ^ 30 * 2 ^ 30 + 2 ^ 30 < infR) : rv t1 ≤ rv (t1 / 2 ^ 30 * 2 ^ 30 + 2 ^ 30) ∧ rv (t1 / 2 ^ 30 * 2 ^ 30 + 2 ^ 30) ≤ (1 + 1 / 1048576) * rv t1 := by
  have hn : 2 ^ 52 ≤ t1 := by
    apply Nat.le_of_not_lt; intro hlt
    have h1 : mag t1 = t1 := by unfold mag; rw [if_pos hlt]
    have h3 : 2 ^ 60 ≤ 2 ^ A := Nat.pow_le_pow_right (by decide) hA
    have := h.lo
    omega
  obtain ⟨e, he⟩ : ∃ e, t1 / 2 ^ 52 = e + 1 := ⟨t1 / 2 ^ 52 - 1, by omega⟩
  have hm1 := mag_normal he
  have hle : mag t1 ≤ mag (t1 / 2 ^ 30 * 2 ^ 30 + 2 ^ 30) := mag_le (by omega)
  have hup : mag (t1 / 2 ^ 30 * 2 ^ 30 + 2 ^ 30) ≤ mag (t1 + 2 ^ 30) := mag_le (by omega)
  have hb : 1048576 * mag (t1 + 2 ^ 30) ≤ 1048577 * mag t1 := by
    by_cases hc : t1 % 2 ^ 52 + 2 ^ 30 < 2 ^ 52
    · have e2 : (t1 + 2 ^ 30) / 2 ^ 52 = e + 1 := by omega
      have e3 : (t1 + 2 ^ 30) % 2 ^ 52 = t1 % 2 ^ 52 + 2 ^ 30 := by omega
      rw [mag_normal e2, hm1, e3, ← Nat.mul_assoc, ← Nat.mul_assoc]
      exact Nat.mul_le_mul_right _ (chopA _)
    · have e2 : (t1 + 2 ^ 30) / 2 ^ 52 = e + 1 + 1 := by omega
      have e3 : (t1 + 2 ^ 30) % 2 ^ 52 = t1 % 2 ^ 52 + 2 ^ 30 - 2 ^ 52 := by omega
      have e4 : (2 : Nat) ^ (e + 1) = 2 * 2 ^ e := Nat.pow_succ'
      rw [mag_normal e2, hm1, e3, e4, ← Nat.mul_assoc, ← Nat.mul_assoc, ← Nat.mul_assoc]
      exact Nat.mul_le_mul_right _ (by rw [Nat.mul_assoc]; exact chopB _ (Nat.le_of_not_lt hc) (Nat.mod_lt _ (by decide)))
  rw [rv_self h.fin, rv_self h2]
  have hu := ur_pos
  have c1 : (mag t1 : Rat) ≤ (mag (t1 / 2 ^ 30 * 2 ^ 30 + 2 ^ 30) : Rat) := Rat.natCast_le_natCast.2 hle
  have c2 : ((1048576 * mag (t1 / 2 ^ 30 * 2 ^ 30 + 2 ^ 30) : Nat) : Rat) ≤ ((1048577 * mag t1 : Nat) : Rat) := Rat.natCast_le_natCast.2 (Nat.le_trans (Nat.mul_le_mul_left _ hup) hb)
  rw [Rat.natCast_mul, Rat.natCast_mul] at c2
  have n1 : ((1048576 : Nat) : Rat) = 1048576 := rfl
  have n2 : ((1048577 : Nat) : Rat) = 1048577 := rfl
  rw [n1, n2] at c2
  exact ⟨rdiv1 hu c1, rdiv2 hu c2⟩

theorem near_part {V K : Int} {r : Nat} (h : Mono V K r) (hK : 0 < K) {M : Nat} (hM1 : 2 ^ 100 ≤ M) {B : Nat} (hB : B ≤ 2000) (hM2 : M < 2 ^ B) (h1 : 512 * V ≤ (M : Int) * K) (h2 : -((M : Int) * K) ≤ 512 * V) :
    1152921504606846976 * (val r * K) ≤ 1152921504606846976 * V + (M : Int) * K ∧ 1152921504606846976 * V - (M : Int) * K ≤ 1152921504606846976 * (val r * K) ∧ rung r < infR := by
  have hM0 : M ≠ 0 := by intro h; rw [h] at hM1; exact absurd hM1 (by decide)
  have l1 : 2 ^ M.log2 ≤ M := Nat.log2_self_le hM0
  have l2 : M < 2 ^ (M.log2 + 1) := Nat.lt_log2_self
  have l3 : 100 ≤ M.log2 := (Nat.le_log2 hM0).2 hM1
  have l4 : M.log2 < B := (Nat.log2_lt hM0).2 hM2
  obtain ⟨G, hG⟩ : ∃ G, M.log2 = G + 60 := ⟨M.log2 - 60, by omega⟩
  rw [hG] at l1 l2
  have e1 : 2 ^ (G + 60) = 1152921504606846976 * 2 ^ G := by rw [Nat.pow_add, Nat.mul_comm]
  have e2 : 2 ^ (G + 60 + 1) = 2305843009213693952 * 2 ^ G := by rw [show G + 60 + 1 = G + 61 by omega, Nat.pow_add, Nat.mul_comm]
  rw [e1] at l1
  rw [e2] at l2
  have c1 : (1152921504606846976 * 2 ^ G : Int) ≤ (M : Int) := by
    have := Int.ofNat_le.2 l1
    rw [Int.natCast_mul] at this
    rw [cast_pow]; exact this
  have c2 : (M : Int) < 2305843009213693952 * 2 ^ G := by
    have := Int.ofNat_lt.2 l2
    rw [Int.natCast_mul] at this
    rw [cast_pow]; exact this
  have d1 := Int.mul_le_mul_of_nonneg_right c1 (Int.le_of_lt hK)
  have d2 := Int.mul_lt_mul_of_pos_right c2 hK
  rw [Int.mul_assoc] at d1 d2
  have hS : (0 : Int) < 2 ^ G * K := Int.mul_pos (Int.pow_pos (by decide)) hK
  obtain ⟨n1, n2, n3⟩ := near_abs h hK (G := G) (by omega) (by omega) (by omega)
  exact ⟨by omega, by omega, n3⟩
theorem part_rat {V K : Int} {M r : Nat} (n1 : 1152921504606846976 * (val r * K) ≤ 1152921504606846976 * V + (M : Int) * K) (n2 : 1152921504606846976 * V - (M : Int) * K ≤ 1152921504606846976 * (val r * K)) :
    (val r : Rat) * K ≤ V + Rt.ep / 256 * (M * K) ∧ V - Rt.ep / 256 * (M * K) ≤ (val r : Rat) * K := by
  obtain ⟨c, hc⟩ : ∃ c : Int, c = 1152921504606846976 := ⟨_, rfl⟩
  rw [← hc] at n1 n2
  have hr : (c : Rat) = 1152921504606846976 := by rw [hc]; rfl
  have m1 : ((c * (val r * K) : Int) : Rat) ≤ ((c * V + (M : Int) * K : Int) : Rat) := Rat.intCast_le_intCast.2 n1
  have m2 : ((c * V - (M : Int) * K : Int) : Rat) ≤ ((c * (val r * K) : Int) : Rat) := Rat.intCast_le_intCast.2 n2
  rw [Rat.intCast_mul, Rat.intCast_mul, Rat.intCast_add, Rat.intCast_mul, Rat.intCast_mul, hr] at m1
  rw [Rat.intCast_sub, Rat.intCast_mul, Rat.intCast_mul, Rat.intCast_mul, Rat.intCast_mul, hr] at m2
  have hMM : (((M : Int)) : Rat) = (M : Rat) := rfl
  rw [hMM] at m1 m2
  constructor <;> grind
end Go.Fl
