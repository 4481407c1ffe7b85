/- The long reduction, for every finite word from 2^29 on: an even octant and a small remainder, the same in every world. -/
import Derived.Test.YtgaodnflifkaiaaDoorTr
namespace Go.Proofs.YtgaodnflifkaiaaDoor
open Go.RowKit Go.Fl
set_option linter.unusedVariables false
set_option linter.unusedSimpArgs false

/-- The digits of four over pi, as the world holds them. -/
structure TabP (w : World) (tab : Nat → Int) : Prop where
  h : ∀ i, i < 20 → w.cell? ⟨3, i, none⟩ = some (.int .u64 (tab i))

theorem bits_in (op : BinOp) (a b : Int) : 0 ≤ bits op .u64 a b ∧ bits op .u64 a b < 18446744073709551616 := by
  unfold bits
  exact wrap_in _
theorem wrap_id {n : Nat} (h : n < 18446744073709551616) : IntKind.u64.wrap (n : Int) = (n : Int) := by
  simp only [IntKind.wrap, IntKind.bits, IntKind.signed]
  simp
  omega
theorem ofInt_nat {J : Nat} (h : J < 18446744073709551616) : (BitVec.ofInt 64 (J : Int)).toNat = J := by
  rw [BitVec.ofInt_natCast, BitVec.toNat_ofNat]; exact Nat.mod_eq_of_lt h
theorem and_mask {J : Nat} (h : J < 18446744073709551616) (m k : Nat) (hm : (BitVec.ofInt 64 (m : Int)).toNat = 2 ^ k - 1) : bits .and .u64 (J : Int) (m : Int) = ((J % 2 ^ k : Nat) : Int) := by
  have e : (BitVec.ofInt 64 (J : Int) &&& BitVec.ofInt 64 (m : Int)).toNat = J % 2 ^ k := by
    rw [BitVec.toNat_and, ofInt_nat h, hm, Nat.and_two_pow_sub_one_eq_mod]
  unfold bits
  show IntKind.u64.wrap (((BitVec.ofInt 64 (J : Int) &&& BitVec.ofInt 64 (m : Int)).toNat : Nat) : Int) = _
  rw [e]
  exact wrap_id (Nat.lt_of_le_of_lt (Nat.mod_le _ _) h)
theorem or_hi {a e : Nat} (ha : a < 4503599627370496) (he : e ≤ 1022) : bits .or .u64 (a : Int) ((e * 4503599627370496 : Nat) : Int) = ((e * 4503599627370496 + a : Nat) : Int) := by
  have h : (BitVec.ofInt 64 (a : Int) ||| BitVec.ofInt 64 ((e * 4503599627370496 : Nat) : Int)).toNat = e * 4503599627370496 + a := by
    rw [BitVec.toNat_or, ofInt_nat (by omega), ofInt_nat (by omega), Nat.or_comm]
    have := Nat.shiftLeft_add_eq_or_of_lt (i := 52) (b := a) (by omega) e
    rw [Nat.shiftLeft_eq] at this
    exact this.symm
  unfold bits
  show IntKind.u64.wrap (((BitVec.ofInt 64 (a : Int) ||| BitVec.ofInt 64 ((e * 4503599627370496 : Nat) : Int)).toNat : Nat) : Int) = _
  rw [h]
  exact wrap_id (by omega)

/-- The long reduction's contract. -/
def Trig (Tab : World → Prop) (x : Nat) (j : Int) (z : Nat) : Prop := ∀ w, Tab w → Calls Tryd.prog 21 #[.float .f64 x] w fun e w' => e = .returned (.tuple #[.int .u64 j, .float .f64 z]) ∧ ∃ n, w' = w.drewN n

theorem trig_long {x : Nat} (h0 : 4737786807993761792 ≤ x) (hx : x < infR) (tab : Nat → Int) : ∃ (j : Int) (z : Nat), (j = 0 ∨ j = 2 ∨ j = 4 ∨ j = 6) ∧ Fin' z ∧ rv z ≤ 4 / 5 ∧ -(4 / 5) ≤ rv z ∧ Trig (fun w => TabP w tab) x j z := by
  have hk := key_self hx
  have hn : nan x = false := by
    unfold nan rung; unfold infR at *
    simp only [decide_eq_false_iff_not]
    rw [Nat.mod_eq_of_lt (by omega)]; omega
  have hE : bits .and .u64 ((x : Int) / 4503599627370496) 2047 = ((x / 4503599627370496 : Nat) : Int) := by
    have e : ((x : Int) / 4503599627370496) = ((x / 4503599627370496 : Nat) : Int) := by omega
    unfold infR at hx
    rw [e, show (2047 : Int) = ((2047 : Nat) : Int) from rfl, and_mask (by omega) 2047 11 (by decide)]
    rw [Nat.mod_eq_of_lt (by omega)]
  have he0 : 1052 ≤ x / 4503599627370496 := by omega
  have he1 : x / 4503599627370496 ≤ 2046 := by unfold infR at hx; omega
  generalize x / 4503599627370496 = ex at hE he0 he1
  obtain ⟨d, hd'⟩ : ∃ d : Nat, ((ex : Int) - 1023 - 52 + 61) / 64 = d := ⟨(((ex : Int) - 1023 - 52 + 61) / 64).toNat, by omega⟩
  obtain ⟨s, hs'⟩ : ∃ s : Nat, ((ex : Int) - 1023 - 52 + 61) % 64 = s := ⟨(((ex : Int) - 1023 - 52 + 61) % 64).toNat, by omega⟩
  have hd : d ≤ 16 := by omega
  have hs : s < 64 := by omega
  generalize hI : bits BinOp.or IntKind.u64 (bits BinOp.andNot IntKind.u64 (x : Int) 9218868437227405312) 4503599627370496 = I
  generalize hz0 : bits BinOp.or IntKind.u64 (IntKind.u64.wrap (tab d * 2 ^ s)) (tab (d + 1) / 2 ^ (64 - s)) = Z0
  generalize hz1 : bits BinOp.or IntKind.u64 (IntKind.u64.wrap (tab (d + 1) * 2 ^ s)) (tab (d + 2) / 2 ^ (64 - s)) = Z1
  generalize hz2 : bits BinOp.or IntKind.u64 (IntKind.u64.wrap (tab (d + 2) * 2 ^ s)) (tab (d + 3) / 2 ^ (64 - s)) = Z2
  obtain ⟨L0, hL0, b1⟩ : ∃ L0, IntKind.u64.wrap (Z0 * I) = L0 ∧ 0 ≤ L0 ∧ L0 < 18446744073709551616 := ⟨_, rfl, wrap_in _⟩
  obtain ⟨H2, hm2, b2⟩ : ∃ L0, mulHi Z2 I = L0 ∧ 0 ≤ L0 ∧ L0 < 18446744073709551616 := ⟨_, rfl, wrap_in _⟩
  obtain ⟨H1, hm1, b3⟩ : ∃ L0, mulHi Z1 I = L0 ∧ 0 ≤ L0 ∧ L0 < 18446744073709551616 := ⟨_, rfl, wrap_in _⟩
  obtain ⟨L1, hl1, b4⟩ : ∃ L0, mulLo Z1 I = L0 ∧ 0 ≤ L0 ∧ L0 < 18446744073709551616 := ⟨_, rfl, wrap_in _⟩
  have ha1 := add64_run L1 H2 0 b4.1 b2.1 (by omega) (by omega)
  obtain ⟨S1, hS1, b5⟩ : ∃ S, (L1 + H2 + 0) % 18446744073709551616 = S ∧ 0 ≤ S ∧ S < 18446744073709551616 := ⟨_, rfl, by omega⟩
  obtain ⟨c1, hc1, b6⟩ : ∃ S, (L1 + H2 + 0) / 18446744073709551616 = S ∧ 0 ≤ S ∧ S ≤ 1 := ⟨_, rfl, by omega⟩
  rw [hS1, hc1] at ha1
  have ha2 := add64_run L0 H1 c1 b1.1 b3.1 b6.1 b6.2
  obtain ⟨S2, hS2, b7⟩ : ∃ S, (L0 + H1 + c1) % 18446744073709551616 = S ∧ 0 ≤ S ∧ S < 18446744073709551616 := ⟨_, rfl, by omega⟩
  generalize hc2 : (L0 + H1 + c1) / 18446744073709551616 = c2 at ha2
  rw [hS2] at ha2
  obtain ⟨J, hJ⟩ : ∃ J : Nat, S2 / 2305843009213693952 = J := ⟨(S2 / 2305843009213693952).toNat, by omega⟩
  have hJ7 : J ≤ 7 := by omega
  obtain ⟨K, hK, b8⟩ : ∃ K, bits BinOp.or IntKind.u64 (IntKind.u64.wrap (S2 * 8)) (S1 / 2305843009213693952) = K ∧ 0 ≤ K ∧ K < 18446744073709551616 := ⟨_, rfl, bits_in _ _ _⟩
  obtain ⟨ni, hlz, n0, n1⟩ := lz64 K b8.1 b8.2
  obtain ⟨n, rfl⟩ := Int.eq_ofNat_of_zero_le n0
  have hn0 : n ≤ 64 := by omega
  have hp1 := shift_shl_any .u64 .u64 K ((n : Int) + 1) (by omega)
  generalize IntKind.u64.wrap (K * 2 ^ min ((n : Int) + 1).toNat IntKind.u64.bits) = P1 at hp1
  obtain ⟨R, hR, b9⟩ : ∃ R, IntKind.u64.wrap (64 - ((n : Int) + 1)) = R ∧ 0 ≤ R := ⟨_, rfl, (wrap_in _).1⟩
  have hp2 := shift_shr_any .u64 .u64 S1 R b9
  generalize S1 / 2 ^ min R.toNat IntKind.u64.bits = P2 at hp2
  obtain ⟨K2, hK2, b10⟩ : ∃ K, bits .or .u64 P1 P2 = K ∧ 0 ≤ K ∧ K < 18446744073709551616 := ⟨_, rfl, bits_in _ _ _⟩
  obtain ⟨K3, hK3⟩ : ∃ J : Nat, K2 / 4096 = J := ⟨(K2 / 4096).toNat, by omega⟩
  obtain ⟨e, he⟩ : ∃ e : Nat, 1023 - ((n : Int) + 1) = e := ⟨(1023 - ((n : Int) + 1)).toNat, by omega⟩
  have hzb : bits .or .u64 (K3 : Int) ((1023 - ((n : Int) + 1)) * 4503599627370496) = ((e * 4503599627370496 + K3 : Nat) : Int) := by
    rw [he, ← or_hi (by omega) (by omega)]
    congr 1
  have hone : e * 4503599627370496 + K3 < one' := by unfold one'; omega
  obtain ⟨⟨r, hr, fr, r1, r2⟩, ⟨u, r', hu, hr', fr', r1', r2'⟩⟩ := trig_z hone
  have hand : bits .and .u64 (J : Int) 1 = ((J % 2 : Nat) : Int) := and_mask (by omega) 1 1 (by decide)
  obtain ⟨fm, em⟩ := f_some hr
  obtain ⟨fs, es⟩ := f_some hu
  obtain ⟨fm', em'⟩ := f_some hr'
  rcases Nat.mod_two_eq_zero_or_one J with hj | hj
  · refine ⟨J, r, by omega, fr, r1, r2, fun w T => ?_⟩
    rw [hj] at hand
    exact trig_walk0 x x hk hn (by omega) (tab d) (tab (d + 1)) (tab (d + 2)) (tab (d + 3)) I Z0 Z1 Z2 L0 H1 L1 H2 S1 c1 S2 c2 J 0 K P1 P2 R K2 K3 ex d s n _ 0 r he0 he1 hE hI hd' hs' hd hs hz0 hz1 hz2 hm2 hm1 hl1 hL0 ha1 ha2 hJ (by omega) (by omega) hK hlz hn0 hp1 hR hp2 hK2 hK3 hzb hand fm em w
      (T.h _ (by omega)) (T.h _ (by omega)) (T.h _ (by omega)) (T.h _ (by omega))
  · have hand7 : bits .and .u64 ((J : Int) + 1) 7 = (((J + 1) % 8 : Nat) : Int) := and_mask (J := J + 1) (by omega) 7 3 (by decide)
    refine ⟨((J + 1) % 8 : Nat), r', by omega, fr', r1', r2', fun w T => ?_⟩
    rw [hj] at hand
    exact trig_walk1 x x hk hn (by omega) (tab d) (tab (d + 1)) (tab (d + 2)) (tab (d + 3)) I Z0 Z1 Z2 L0 H1 L1 H2 S1 c1 S2 c2 J _ K P1 P2 R K2 K3 ex d s n _ u r' he0 he1 hE hI hd' hs' hd hs hz0 hz1 hz2 hm2 hm1 hl1 hL0 ha1 ha2 hJ (by omega) (by omega) hK hlz hn0 hp1 hR hp2 hK2 hK3 hzb hand hand7 fs es fm' em' w
      (T.h _ (by omega)) (T.h _ (by omega)) (T.h _ (by omega)) (T.h _ (by omega))
end Go.Proofs.YtgaodnflifkaiaaDoor
