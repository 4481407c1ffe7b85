import Derived.Test.YtgaodnflifkaiaaDoorTq
namespace Go.Proofs.YtgaodnflifkaiaaDoor
open Go.RowKit Go.Fl
set_option linter.unusedVariables false
set_option linter.unusedSimpArgs false
attribute [local go_sem ↓] Go.wp_at_zero Go.wp_at_succ

set_option maxHeartbeats 4000000 in
theorem trig_walk0 (x : Nat) (X : Int) (hk : key x = X) (hn : nan x = false) (hX : 4737786807993761792 ≤ X) (A B C D I Z0 Z1 Z2 L0 H1 L1 H2 S1 c1 S2 c2 J J2 K P1 P2 R K2 K3 : Int) (ex d s n zb u y : Nat) (he0 : 1052 ≤ ex) (he1 : ex ≤ 2046)
    (hE : bits .and .u64 ((x : Int) / 4503599627370496) 2047 = (ex : Int))
    (hI : bits BinOp.or IntKind.u64 (bits BinOp.andNot IntKind.u64 (x : Int) 9218868437227405312) 4503599627370496 = I)
    (hd' : ((ex : Int) - 1023 - 52 + 61) / 64 = d) (hs' : ((ex : Int) - 1023 - 52 + 61) % 64 = s)
    (hd : d ≤ 16) (hs : s < 64)
    (hz0 : bits BinOp.or IntKind.u64 (IntKind.u64.wrap (A * 2 ^ s)) (B / 2 ^ (64 - s)) = Z0)
    (hz1 : bits BinOp.or IntKind.u64 (IntKind.u64.wrap (B * 2 ^ s)) (C / 2 ^ (64 - s)) = Z1)
    (hz2 : bits BinOp.or IntKind.u64 (IntKind.u64.wrap (C * 2 ^ s)) (D / 2 ^ (64 - s)) = Z2)
    (hm2 : mulHi Z2 I = H2) (hm1 : mulHi Z1 I = H1) (hl1 : mulLo Z1 I = L1)
    (hL0 : IntKind.u64.wrap (Z0 * I) = L0)
    (ha1 : ∀ w, (callFunc 26 #[.int .u64 L1, .int .u64 H2, .int .u64 0]).run Tryd.prog w = .ok (.value (.tuple #[.int .u64 S1, .int .u64 c1])) w)
    (ha2 : ∀ w, (callFunc 26 #[.int .u64 L0, .int .u64 H1, .int .u64 c1]).run Tryd.prog w = .ok (.value (.tuple #[.int .u64 S2, .int .u64 c2])) w)
    (hJ : S2 / 2305843009213693952 = J) (hJ0 : 0 ≤ J) (hJ7 : J ≤ 7)
    (hK : bits BinOp.or IntKind.u64 (IntKind.u64.wrap (S2 * 8)) (S1 / 2305843009213693952) = K)
    (hlz : ∀ w, Calls Tryd.prog 27 #[.int .u64 K] w fun e w' => e = .returned (.int .i64 n) ∧ w' = w) (hn0 : n ≤ 64)
    (hp1 : Op.shift .shl .u64 K .u64 ((n : Int) + 1) = pure (.int .u64 P1))
    (hR : IntKind.u64.wrap (64 - ((n : Int) + 1)) = R) (hp2 : Op.shift .shr .u64 S1 .u64 R = pure (.int .u64 P2))
    (hK2 : bits .or .u64 P1 P2 = K2) (hK3 : K2 / 4096 = K3)
    (hzb : bits .or .u64 K3 ((1023 - ((n : Int) + 1)) * 4503599627370496) = (zb : Int))
    (hj : bits .and .u64 J 1 = 0)
    (fm : ∀ w, fop .mul w zb 4605249457297304856 = y) (em : fdr .mul zb 4605249457297304856 = 0)
    (w : World) (tA : w.cell? ⟨3, d, none⟩ = some (.int .u64 A)) (tB : w.cell? ⟨3, d + 1, none⟩ = some (.int .u64 B)) (tC : w.cell? ⟨3, d + 2, none⟩ = some (.int .u64 C)) (tD : w.cell? ⟨3, d + 3, none⟩ = some (.int .u64 D)) :
    Calls Tryd.prog 21 #[.float .f64 x] w fun e w' => e = .returned (.tuple #[.int .u64 J, .float .f64 y]) ∧ ∃ n, w' = w.drewN n := by
  have hb := bits_run
  have hf := frombits_run
  have kk : key 4605249457297304856 = 4605249457297304856 := by decide
  have kn : nan 4605249457297304856 = false := by decide
  have hng : ¬ X < 4605249457297304856 := by omega
  have HL := Lib.hid hlz
  clear hlz
  go_enter Tryd.func21, Tryd.ntmps21
  go_wp2
  go_quiet (fail)
  have tA1 : (w.drewN nq).cell? ⟨3, d, none⟩ = some (.int .u64 A) := tA
  have tB1 : (w.drewN nq).cell? ⟨3, d + 1, none⟩ = some (.int .u64 B) := tB
  have tC1 : (w.drewN nq).cell? ⟨3, d + 2, none⟩ = some (.int .u64 C) := tC
  have tD1 : (w.drewN nq).cell? ⟨3, d + 3, none⟩ = some (.int .u64 D) := tD
  generalize hW1 : w.drewN nq = W1 at tA1 tB1 tC1 tD1 ⊢
  have E1 : ∃ n, W1 = w.drewN n := ⟨_, hW1.symm⟩
  have e1 := Lib.hid E1
  clear E1 hW1 nq
  go_wp2
  go_quiet (fail)
  have tC2 : (W1.drewN nq).cell? ⟨3, d + 2, none⟩ = some (.int .u64 C) := tC1
  have tD2 : (W1.drewN nq).cell? ⟨3, d + 3, none⟩ = some (.int .u64 D) := tD1
  generalize hW2 : W1.drewN nq = W2 at tC2 tD2 ⊢
  have E2 : ∃ n, W2 = W1.drewN n := ⟨_, hW2.symm⟩
  have e2 := Lib.hid E2
  clear E2 hW2 nq
  go_wp2
  go_quiet (fail)
  generalize hW3 : W2.drewN nq = W3
  have E3 : ∃ n, W3 = w.drewN n := by
    obtain ⟨n1, h1⟩ := e1.out
    obtain ⟨n2, h2⟩ := e2.out
    rw [← hW3, h2, h1]
    exact ⟨_, by rw [World.drewN_drewN, World.drewN_drewN]⟩
  have e3 := Lib.hid E3
  clear E3 hW3 nq e1 e2 tA tB tC tD tA1 tB1 tC1 tD1 tC2 tD2 hz0 hz1 hz2
  go_wp2_with (first | (go_at_call 25; refine (mul64 _ _ _).mono ?_; rintro e w' ⟨rfl, rfl⟩) | (go_at_call 27; refine (HL.out _).mono ?_; rintro e w' ⟨rfl, rfl⟩))
  go_ret2
  exact ⟨rfl, e3.out⟩
set_option maxHeartbeats 4000000 in
theorem trig_walk1 (x : Nat) (X : Int) (hk : key x = X) (hn : nan x = false) (hX : 4737786807993761792 ≤ X) (A B C D I Z0 Z1 Z2 L0 H1 L1 H2 S1 c1 S2 c2 J J2 K P1 P2 R K2 K3 : Int) (ex d s n zb u y : Nat) (he0 : 1052 ≤ ex) (he1 : ex ≤ 2046)
    (hE : bits .and .u64 ((x : Int) / 4503599627370496) 2047 = (ex : Int))
    (hI : bits BinOp.or IntKind.u64 (bits BinOp.andNot IntKind.u64 (x : Int) 9218868437227405312) 4503599627370496 = I)
    (hd' : ((ex : Int) - 1023 - 52 + 61) / 64 = d) (hs' : ((ex : Int) - 1023 - 52 + 61) % 64 = s)
    (hd : d ≤ 16) (hs : s < 64)
    (hz0 : bits BinOp.or IntKind.u64 (IntKind.u64.wrap (A * 2 ^ s)) (B / 2 ^ (64 - s)) = Z0)
    (hz1 : bits BinOp.or IntKind.u64 (IntKind.u64.wrap (B * 2 ^ s)) (C / 2 ^ (64 - s)) = Z1)
    (hz2 : bits BinOp.or IntKind.u64 (IntKind.u64.wrap (C * 2 ^ s)) (D / 2 ^ (64 - s)) = Z2)
    (hm2 : mulHi Z2 I = H2) (hm1 : mulHi Z1 I = H1) (hl1 : mulLo Z1 I = L1)
    (hL0 : IntKind.u64.wrap (Z0 * I) = L0)
    (ha1 : ∀ w, (callFunc 26 #[.int .u64 L1, .int .u64 H2, .int .u64 0]).run Tryd.prog w = .ok (.value (.tuple #[.int .u64 S1, .int .u64 c1])) w)
    (ha2 : ∀ w, (callFunc 26 #[.int .u64 L0, .int .u64 H1, .int .u64 c1]).run Tryd.prog w = .ok (.value (.tuple #[.int .u64 S2, .int .u64 c2])) w)
    (hJ : S2 / 2305843009213693952 = J) (hJ0 : 0 ≤ J) (hJ7 : J ≤ 7)
    (hK : bits BinOp.or IntKind.u64 (IntKind.u64.wrap (S2 * 8)) (S1 / 2305843009213693952) = K)
    (hlz : ∀ w, Calls Tryd.prog 27 #[.int .u64 K] w fun e w' => e = .returned (.int .i64 n) ∧ w' = w) (hn0 : n ≤ 64)
    (hp1 : Op.shift .shl .u64 K .u64 ((n : Int) + 1) = pure (.int .u64 P1))
    (hR : IntKind.u64.wrap (64 - ((n : Int) + 1)) = R) (hp2 : Op.shift .shr .u64 S1 .u64 R = pure (.int .u64 P2))
    (hK2 : bits .or .u64 P1 P2 = K2) (hK3 : K2 / 4096 = K3)
    (hzb : bits .or .u64 K3 ((1023 - ((n : Int) + 1)) * 4503599627370496) = (zb : Int))
    (hj : bits .and .u64 J 1 = 1) (hj2 : bits .and .u64 (J + 1) 7 = J2) (fs : ∀ w, fop .sub w zb 4607182418800017408 = u) (es : fdr .sub zb 4607182418800017408 = 0)
    (fm : ∀ w, fop .mul w u 4605249457297304856 = y) (em : fdr .mul u 4605249457297304856 = 0)
    (w : World) (tA : w.cell? ⟨3, d, none⟩ = some (.int .u64 A)) (tB : w.cell? ⟨3, d + 1, none⟩ = some (.int .u64 B)) (tC : w.cell? ⟨3, d + 2, none⟩ = some (.int .u64 C)) (tD : w.cell? ⟨3, d + 3, none⟩ = some (.int .u64 D)) :
    Calls Tryd.prog 21 #[.float .f64 x] w fun e w' => e = .returned (.tuple #[.int .u64 J2, .float .f64 y]) ∧ ∃ n, w' = w.drewN n := by
  have hb := bits_run
  have hf := frombits_run
  have kk : key 4605249457297304856 = 4605249457297304856 := by decide
  have kn : nan 4605249457297304856 = false := by decide
  have hng : ¬ X < 4605249457297304856 := by omega
  have HL := Lib.hid hlz
  clear hlz
  go_enter Tryd.func21, Tryd.ntmps21
  go_wp2
  go_quiet (fail)
  have tA1 : (w.drewN nq).cell? ⟨3, d, none⟩ = some (.int .u64 A) := tA
  have tB1 : (w.drewN nq).cell? ⟨3, d + 1, none⟩ = some (.int .u64 B) := tB
  have tC1 : (w.drewN nq).cell? ⟨3, d + 2, none⟩ = some (.int .u64 C) := tC
  have tD1 : (w.drewN nq).cell? ⟨3, d + 3, none⟩ = some (.int .u64 D) := tD
  generalize hW1 : w.drewN nq = W1 at tA1 tB1 tC1 tD1 ⊢
  have E1 : ∃ n, W1 = w.drewN n := ⟨_, hW1.symm⟩
  have e1 := Lib.hid E1
  clear E1 hW1 nq
  go_wp2
  go_quiet (fail)
  have tC2 : (W1.drewN nq).cell? ⟨3, d + 2, none⟩ = some (.int .u64 C) := tC1
  have tD2 : (W1.drewN nq).cell? ⟨3, d + 3, none⟩ = some (.int .u64 D) := tD1
  generalize hW2 : W1.drewN nq = W2 at tC2 tD2 ⊢
  have E2 : ∃ n, W2 = W1.drewN n := ⟨_, hW2.symm⟩
  have e2 := Lib.hid E2
  clear E2 hW2 nq
  go_wp2
  go_quiet (fail)
  generalize hW3 : W2.drewN nq = W3
  have E3 : ∃ n, W3 = w.drewN n := by
    obtain ⟨n1, h1⟩ := e1.out
    obtain ⟨n2, h2⟩ := e2.out
    rw [← hW3, h2, h1]
    exact ⟨_, by rw [World.drewN_drewN, World.drewN_drewN]⟩
  have e3 := Lib.hid E3
  clear E3 hW3 nq e1 e2 tA tB tC tD tA1 tB1 tC1 tD1 tC2 tD2 hz0 hz1 hz2
  go_wp2_with (first | (go_at_call 25; refine (mul64 _ _ _).mono ?_; rintro e w' ⟨rfl, rfl⟩) | (go_at_call 27; refine (HL.out _).mono ?_; rintro e w' ⟨rfl, rfl⟩))
  go_ret2
  exact ⟨rfl, e3.out⟩
end Go.Proofs.YtgaodnflifkaiaaDoor

