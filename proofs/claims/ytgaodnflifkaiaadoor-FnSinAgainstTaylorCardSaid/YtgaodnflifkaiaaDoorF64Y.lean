/- The cube root's error, in rational numbers alone. -/
namespace Go.Fl.Rt
set_option linter.unusedVariables false

/-- From a product under a bound: the factor. -/
theorem le_of_mul {f e B : Rat} (he : 0 < e) (h : f * e ≤ B * e) : f ≤ B := Rat.le_of_mul_le_mul_right h he
theorem mul_nn {a b : Rat} (ha : 0 ≤ a) (hb : 0 ≤ b) : 0 ≤ a * b := Rat.mul_nonneg ha hb
/-- A product of two small numbers. -/
theorem prod_le {a b A B : Rat} (h1 : a ≤ A) (h2 : -A ≤ a) (h3 : b ≤ B) (h4 : -B ≤ b) : a * b ≤ A * B ∧ -(A * B) ≤ a * b := by
  have p1 := mul_nn (a := A - a) (b := B + b) (by grind) (by grind)
  have p2 := mul_nn (a := A + a) (b := B - b) (by grind) (by grind)
  have p3 := mul_nn (a := A - a) (b := B - b) (by grind) (by grind)
  have p4 := mul_nn (a := A + a) (b := B + b) (by grind) (by grind)
  constructor <;> grind

/-- One part in 2 ^ 52. -/
abbrev ep : Rat := 1 / 4503599627370496

theorem stage2 {q s r w e d f g t : Rat} (q1 : q ≤ 1 + 1 / 65536) (q2 : 1 - 1 / 65536 ≤ q)
    (s1 : s ≤ 1 + ep) (s2 : 1 - ep ≤ s) (r0 : 0 ≤ r) (r1 : r * s ≤ (1 + ep) * q) (r2 : (1 - ep) * q ≤ r * s)
    (w1 : w ≤ (1 + ep) * 2) (w2 : (1 - ep) * 2 ≤ w) (e1 : e ≤ (1 + ep) * (w + r)) (e2 : (1 - ep) * (w + r) ≤ e)
    (d1 : d ≤ r - 1 + ep / 256) (d2 : r - 1 - ep / 256 ≤ d) (f1 : f * e ≤ d + ep / 256 * e) (f2 : d - ep / 256 * e ≤ f * e)
    (g1 : g ≤ f + ep / 256) (g2 : f - ep / 256 ≤ g) (t1 : t ≤ (1 + ep) * (1 + g)) (t2 : (1 - ep) * (1 + g) ≤ t) :
    t * t * t ≤ (1 + 8 * ep) * q ∧ (1 - 8 * ep) * q ≤ t * t * t := by
  -- r
  have a1 : r * (1 - ep) ≤ r * s := Rat.mul_le_mul_of_nonneg_left s2 r0
  have a2 : r * s ≤ r * (1 + ep) := Rat.mul_le_mul_of_nonneg_left s1 r0
  have b1 : r - q ≤ 2 * ep + ep / 1000 := by grind
  have b2 : q - r ≤ 2 * ep + ep / 1000 := by grind
  -- e
  have c1 : e - (2 + q) ≤ 9 * ep := by grind
  have c2 : (2 + q) - e ≤ 9 * ep := by grind
  have ep0 : 0 < e := by grind
  obtain ⟨th, hth⟩ : ∃ th : Rat, th = q - 1 := ⟨_, rfl⟩
  -- f e
  have k1 : f * e ≤ th + (2 * ep + ep / 50) := by grind
  have k2 : th - (2 * ep + ep / 50) ≤ f * e := by grind
  have m1 : f ≤ 1 / 131072 := by
    refine le_of_mul ep0 ?_
    grind
  have m2 : -(1 / 131072) ≤ f := by
    refine le_of_mul ep0 ?_
    grind
  obtain ⟨n1, n2⟩ := prod_le (a := f) (b := 2 + q - e) (A := 1 / 131072) (B := 9 * ep) m1 m2 c2 (by grind)
  obtain ⟨f0, hf0⟩ : ∃ f0 : Rat, f0 = th / (3 + th) := ⟨_, rfl⟩
  have hp : 0 < 3 + th := by grind
  have hf0' : f0 * (3 + th) = th := by rw [hf0]; grind
  clear hf0
  have idf : (f - f0) * (3 + th) = f * e + f * (2 + q - e) - th := by
    have e0 : (f - f0) * (3 + th) = f * (3 + th) - f0 * (3 + th) := by grind
    rw [e0, hf0', hth]; grind
  have hp3 : 299 / 100 ≤ 3 + th := by grind
  have bd : (3 : Rat) / 4 * ep * (299 / 100) ≤ 3 / 4 * ep * (3 + th) := Rat.mul_le_mul_of_nonneg_left hp3 (by grind)
  have o1 : f - f0 ≤ 3 / 4 * ep := by
    refine le_of_mul hp ?_
    rw [idf]
    grind
  have o2 : f0 - f ≤ 3 / 4 * ep := by
    refine le_of_mul hp ?_
    have : (f0 - f) * (3 + th) = -((f - f0) * (3 + th)) := by grind
    rw [this, idf]
    grind
  have z1 : f0 ≤ 1 / 131072 := by
    refine le_of_mul hp ?_
    grind
  have z2 : -(1 / 131072) ≤ f0 := by
    refine le_of_mul hp ?_
    grind
  obtain ⟨T, hT⟩ : ∃ T : Rat, T = 1 + f0 := ⟨_, rfl⟩
  have u1 : t - T ≤ 18 / 10 * ep := by grind
  have u2 : T - t ≤ 18 / 10 * ep := by grind
  -- the cube
  have hTT : T * (3 + th) = 3 + 2 * th := by rw [hT]; grind
  have id1 : (T * T * T - q) * ((3 + th) * (3 + th) * (3 + th)) = -(2 * (th * th * th)) - th * th * (th * th) := by
    have e3 : T * T * T * ((3 + th) * (3 + th) * (3 + th)) = (3 + 2 * th) * (3 + 2 * th) * (3 + 2 * th) := by rw [← hTT]; grind
    have : q = 1 + th := by grind
    have e0 : (T * T * T - q) * ((3 + th) * (3 + th) * (3 + th)) = T * T * T * ((3 + th) * (3 + th) * (3 + th)) - q * ((3 + th) * (3 + th) * (3 + th)) := by grind
    rw [e0, e3, this]; grind
  have th1 : th ≤ 1 / 65536 := by grind
  have th2 : -(1 / 65536) ≤ th := by grind
  obtain ⟨p1, p2⟩ := prod_le th1 th2 th1 th2
  obtain ⟨p3, p4⟩ := prod_le p1 p2 th1 th2
  obtain ⟨p5, p6⟩ := prod_le p1 p2 p1 p2
  obtain ⟨D, hD⟩ : ∃ D : Rat, D = (3 + th) * (3 + th) * (3 + th) := ⟨_, rfl⟩
  have hDl : 26 ≤ D := by rw [hD]; grind
  rw [← hD] at id1
  have v1 : T * T * T - q ≤ 14 / 10 * ep := by
    refine le_of_mul (e := D) (by grind) ?_
    grind
  have v2 : -(14 / 10 * ep) ≤ T * T * T - q := by
    refine le_of_mul (e := D) (by grind) ?_
    grind
  obtain ⟨x, hx⟩ : ∃ x : Rat, x = t - T := ⟨_, rfl⟩
  have te : t = T + x := by grind
  have x1 : x ≤ 18 / 10 * ep := by grind
  have x2 : -(18 / 10 * ep) ≤ x := by grind
  obtain ⟨h, hh⟩ : ∃ h : Rat, h = 3 * (T * T) + 3 * (T * x) + x * x := ⟨_, rfl⟩
  have T1 : T ≤ 1 + 1 / 131072 := by grind
  have T2 : -(1 + 1 / 131072) ≤ T := by grind
  obtain ⟨y1, y2⟩ := prod_le T1 T2 T1 T2
  obtain ⟨y3, y4⟩ := prod_le T1 T2 x1 x2
  obtain ⟨y5, y6⟩ := prod_le x1 x2 x1 x2
  have h1 : h ≤ 301 / 100 := by rw [hh]; grind
  have h2 : -(301 / 100) ≤ h := by rw [hh]; grind
  obtain ⟨g3, g4⟩ := prod_le x1 x2 h1 h2
  have id2 : t * t * t = T * T * T + x * h := by rw [te, hh]; grind
  constructor
  · rw [id2]; grind
  · rw [id2]; grind

/-- The constants. -/
def kC : Rat := (4889622452573681 / 9007199254740992 : Rat)
def kE : Rat := (6369376615852559 / 4503599627370496 : Rat)
def kD : Rat := (1588208195121677 / 2251799813685248 : Rat)
def kF : Rat := (3618963986279863 / 2251799813685248 : Rat)
def kG : Rat := (6433713753386423 / 18014398509481984 : Rat)
theorem kC_near : kC - 19 / 35 ≤ ep ∧ 19 / 35 - kC ≤ ep := by unfold kC; constructor <;> grind
theorem kE_near : kE - 99 / 70 ≤ ep ∧ 99 / 70 - kE ≤ ep := by unfold kE; constructor <;> grind
theorem kD_near : kD - 864 / 1225 ≤ ep ∧ 864 / 1225 - kD ≤ ep := by unfold kD; constructor <;> grind
theorem kF_near : kF - 45 / 28 ≤ ep ∧ 45 / 28 - kF ≤ ep := by unfold kF; constructor <;> grind
theorem kG_near : kG - 5 / 14 ≤ ep ∧ 5 / 14 - kG ≤ ep := by unfold kG; constructor <;> grind

theorem stage1 {y b s c1 q c3 c4 c5 : Rat} (y1 : y ≤ 6 / 5) (y2 : 4 / 5 ≤ y) (b1 : b ≤ y + 5 * ep) (b2 : y - 5 * ep ≤ b)
    (s1 : s ≤ (1 + ep) * (kC + b)) (s2 : (1 - ep) * (kC + b) ≤ s) (d1 : c1 ≤ (1 + ep) * (s + kE)) (d2 : (1 - ep) * (s + kE) ≤ c1)
    (q0 : 0 ≤ q) (q1 : q * s ≤ (1 + ep) * kD) (q2 : (1 - ep) * kD ≤ q * s) (e1 : c3 ≤ (1 + ep) * (c1 - q)) (e2 : (1 - ep) * (c1 - q) ≤ c3)
    (f0 : 0 ≤ c4) (f1 : c4 * c3 ≤ (1 + ep) * kF) (f2 : (1 - ep) * kF ≤ c4 * c3) (g1 : c5 ≤ (1 + ep) * (kG + c4)) (g2 : (1 - ep) * (kG + c4) ≤ c5) :
    ∃ g : Rat, g * (14 * (y * y) + 35 * y + 5) = 5 * (y * y) + 35 * y + 14 ∧ c5 - g ≤ 40 * ep ∧ g - c5 ≤ 40 * ep := by
  obtain ⟨kc1, kc2⟩ := kC_near
  obtain ⟨ke1, ke2⟩ := kE_near
  obtain ⟨kd1, kd2⟩ := kD_near
  obtain ⟨kf1, kf2⟩ := kF_near
  obtain ⟨kg1, kg2⟩ := kG_near
  generalize kC = C at *
  generalize kE = E at *
  generalize kD = D at *
  generalize kF = F at *
  generalize kG = G at *
  obtain ⟨S, hS⟩ : ∃ S : Rat, S = 19 / 35 + y := ⟨_, rfl⟩
  have sa : s - S ≤ 9 * ep := by grind
  have sb : S - s ≤ 9 * ep := by grind
  have Sl : 13 / 10 ≤ S := by grind
  have Sh : S ≤ 18 / 10 := by grind
  have ca : c1 - (S + 99 / 70) ≤ 14 * ep := by grind
  have cb : (S + 99 / 70) - c1 ≤ 14 * ep := by grind
  -- the quotient D / S
  obtain ⟨Q, hQ⟩ : ∃ Q : Rat, Q * S = 864 / 1225 := ⟨864 / 1225 / S, by grind⟩
  have hs0 : 0 < s := by grind
  have hS0 : 0 < S := by grind
  have qh : q ≤ 6 / 10 := by
    refine le_of_mul hs0 ?_
    have : (6 : Rat) / 10 * (129 / 100) ≤ 6 / 10 * s := Rat.mul_le_mul_of_nonneg_left (by grind) (by grind)
    grind
  obtain ⟨p1, p2⟩ := prod_le (a := q) (b := S - s) (A := 6 / 10) (B := 9 * ep) qh (by grind) sb (by grind)
  have idq : (q - Q) * S = q * s + q * (S - s) - 864 / 1225 := by grind
  have bS : (8 : Rat) * ep * (13 / 10) ≤ 8 * ep * S := Rat.mul_le_mul_of_nonneg_left Sl (by grind)
  have qa : q - Q ≤ 8 * ep := by
    refine le_of_mul hS0 ?_
    rw [idq]; grind
  have qb : Q - q ≤ 8 * ep := by
    refine le_of_mul hS0 ?_
    have : (Q - q) * S = -((q - Q) * S) := by grind
    rw [this, idq]; grind
  -- c3
  obtain ⟨Z, hZ⟩ : ∃ Z : Rat, Z = S + 99 / 70 - Q := ⟨_, rfl⟩
  have QlS : 864 / 1225 / 2 ≤ Q := by
    refine le_of_mul hS0 ?_
    have : (864 : Rat) / 1225 / 2 * S ≤ 864 / 1225 / 2 * 2 := Rat.mul_le_mul_of_nonneg_left (by grind) (by grind)
    rw [hQ]; grind
  have QhS : Q ≤ 61 / 100 := by grind
  have za : c3 - Z ≤ 27 * ep := by grind
  have zb : Z - c3 ≤ 27 * ep := by grind
  have Zl : 21 / 10 ≤ Z := by grind
  have Zh : Z ≤ 3 := by grind
  have idZ : Z * S = y * y + 5 / 2 * y + 5 / 14 := by
    have : Z * S = S * S + 99 / 70 * S - Q * S := by rw [hZ]; grind
    rw [this, hQ, hS]; grind
  -- c4
  obtain ⟨W, hW⟩ : ∃ W : Rat, W * Z = 45 / 28 := ⟨45 / 28 / Z, by grind⟩
  have hZ0 : 0 < Z := by grind
  have hc30 : 0 < c3 := by grind
  have wh : c4 ≤ 8 / 10 := by
    refine le_of_mul hc30 ?_
    have : (8 : Rat) / 10 * (209 / 100) ≤ 8 / 10 * c3 := Rat.mul_le_mul_of_nonneg_left (by grind) (by grind)
    grind
  obtain ⟨p3, p4⟩ := prod_le (a := c4) (b := Z - c3) (A := 8 / 10) (B := 27 * ep) wh (by grind) zb (by grind)
  have idw : (c4 - W) * Z = c4 * c3 + c4 * (Z - c3) - 45 / 28 := by grind
  have bZ : (13 : Rat) * ep * (21 / 10) ≤ 13 * ep * Z := Rat.mul_le_mul_of_nonneg_left Zl (by grind)
  have wa : c4 - W ≤ 13 * ep := by
    refine le_of_mul hZ0 ?_
    rw [idw]; grind
  have wb : W - c4 ≤ 13 * ep := by
    refine le_of_mul hZ0 ?_
    have : (W - c4) * Z = -((c4 - W) * Z) := by grind
    rw [this, idw]; grind
  refine ⟨5 / 14 + W, ?_, by grind, by grind⟩
  have i1 : W * (y * y + 5 / 2 * y + 5 / 14) = 45 / 28 * S := by
    rw [← idZ]
    have : W * (Z * S) = W * Z * S := by grind
    rw [this, hW]
  have i2 : (5 / 14 + W) * (14 * (y * y) + 35 * y + 5) = 5 / 14 * (14 * (y * y) + 35 * y + 5) + 14 * (W * (y * y + 5 / 2 * y + 5 / 14)) := by grind
  rw [i2, i1, hS]; grind

/-- The rational approximation of y ^ (-1/3) is that good. -/
theorem pade {y g : Rat} (y1 : y ≤ 6 / 5) (y2 : 4 / 5 ≤ y) (hg : g * (14 * (y * y) + 35 * y + 5) = 5 * (y * y) + 35 * y + 14) : y * (g * g * g) - 1 ≤ 1 / 240000 ∧ 1 - y * (g * g * g) ≤ 1 / 240000 ∧ g ≤ 11 / 10 ∧ 9 / 10 ≤ g := by
  obtain ⟨h, hh⟩ : ∃ h : Rat, h = y - 1 := ⟨_, rfl⟩
  obtain ⟨D, hD⟩ : ∃ D : Rat, D = 54 + 63 * h + 14 * (h * h) := ⟨_, rfl⟩
  obtain ⟨N, hN⟩ : ∃ N : Rat, N = 54 + 45 * h + 5 * (h * h) := ⟨_, rfl⟩
  have hg' : g * D = N := by
    have e1 : D = 14 * (y * y) + 35 * y + 5 := by rw [hD, hh]; grind
    have e2 : N = 5 * (y * y) + 35 * y + 14 := by rw [hN, hh]; grind
    rw [e1, e2]; exact hg
  have h1 : h ≤ 1 / 5 := by grind
  have h2 : -(1 / 5) ≤ h := by grind
  obtain ⟨p1, p2⟩ := prod_le h1 h2 h1 h2
  have hq0 : 0 ≤ h * h := by
    rcases Rat.le_total (a := 0) (b := h) with k | k
    · exact mul_nn k k
    · have := mul_nn (a := -h) (b := -h) (by grind) (by grind)
      grind
  have Dl : 414 / 10 ≤ D := by rw [hD]; grind
  have id1 : (y * (g * g * g) - 1) * (D * D * D) = 756 * (h * h * (h * h) * h) + 756 * (h * h * (h * h) * (h * h)) + 125 * (h * h * (h * h) * (h * h) * h) := by
    have e0 : (y * (g * g * g) - 1) * (D * D * D) = y * (g * D * (g * D) * (g * D)) - D * D * D := by grind
    have ey : y = 1 + h := by grind
    rw [e0, hg', ey, hN, hD]; grind
  obtain ⟨p3, p4⟩ := prod_le p1 p2 p1 p2
  obtain ⟨p5, p6⟩ := prod_le p3 p4 h1 h2
  obtain ⟨p7, p8⟩ := prod_le p3 p4 p1 p2
  obtain ⟨p9, p10⟩ := prod_le p7 p8 h1 h2
  obtain ⟨DD, hDD⟩ : ∃ X : Rat, X = D * D := ⟨_, rfl⟩
  have DDl : 414 / 10 * (414 / 10) ≤ DD := by
    have : (414 / 10 : Rat) * (414 / 10) ≤ 414 / 10 * D := Rat.mul_le_mul_of_nonneg_left Dl (by grind)
    have t2 : 414 / 10 * D ≤ D * D := Rat.mul_le_mul_of_nonneg_right Dl (by grind)
    rw [hDD]; grind
  obtain ⟨D3, hD3⟩ : ∃ X : Rat, X = D * D * D := ⟨_, rfl⟩
  have D3l : 414 / 10 * (414 / 10) * (414 / 10) ≤ D3 := by
    have t1 : (414 / 10 : Rat) * (414 / 10) * (414 / 10) ≤ 414 / 10 * (414 / 10) * D := Rat.mul_le_mul_of_nonneg_left Dl (by grind)
    have t2 : 414 / 10 * (414 / 10) * D ≤ DD * D := Rat.mul_le_mul_of_nonneg_right DDl (by grind)
    rw [hD3, ← hDD]; grind
  rw [← hD3] at id1
  refine ⟨?_, ?_, ?_, ?_⟩
  · refine le_of_mul (e := D3) (by grind) ?_
    rw [id1]; grind
  · refine le_of_mul (e := D3) (by grind) ?_
    have : (1 - y * (g * g * g)) * D3 = -((y * (g * g * g) - 1) * D3) := by grind
    rw [this, id1]; grind
  · refine le_of_mul (e := D) (by grind) ?_
    rw [hg', hN, hD]; grind
  · refine le_of_mul (e := D) (by grind) ?_
    rw [hg', hN, hD]; grind
end Go.Fl.Rt
