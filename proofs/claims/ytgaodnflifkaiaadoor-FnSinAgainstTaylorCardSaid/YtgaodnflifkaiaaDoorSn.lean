/- math.sin's walks. -/
import Derived.Test.YtgaodnflifkaiaaDoorTs
namespace Go.Proofs.YtgaodnflifkaiaaDoor
open Go.RowKit Go.Fl
set_option linter.unusedVariables false
set_option linter.unusedSimpArgs false
attribute [local go_sem ↓] Go.wp_at_zero Go.wp_at_succ

/-- The tables as the world holds them. -/
structure TabS (w : World) : Prop where
  h0 : w.cell? ⟨2, 0, none⟩ = some (.float .f64 4460209587652500685)
  h1 : w.cell? ⟨2, 1, none⟩ = some (.float .f64 13716528389658582877)
  h2 : w.cell? ⟨2, 2, none⟩ = some (.float .f64 4523617212962785441)
  h3 : w.cell? ⟨2, 3, none⟩ = some (.float .f64 13774824197404483331)
  h4 : w.cell? ⟨2, 4, none⟩ = some (.float .f64 4575957461383575504)
  h5 : w.cell? ⟨2, 5, none⟩ = some (.float .f64 13818544856648471880)
structure TabC (w : World) : Prop where
  h0 : w.cell? ⟨1, 0, none⟩ = some (.float .f64 13666448263388469915)
  h1 : w.cell? ⟨1, 1, none⟩ = some (.float .f64 4477121864728985349)
  h2 : w.cell? ⟨1, 2, none⟩ = some (.float .f64 13732177093698800582)
  h3 : w.cell? ⟨1, 3, none⟩ = some (.float .f64 4537941361668146421)
  h4 : w.cell? ⟨1, 4, none⟩ = some (.float .f64 13787419979223748497)
  h5 : w.cell? ⟨1, 5, none⟩ = some (.float .f64 4586165620538955083)
theorem and1 {J : Nat} (h : J ≤ 1073741824) : bits .and .u64 (J : Int) 1 = ((J % 2 : Nat) : Int) := by
  have e : (BitVec.ofInt 64 (J : Int) &&& BitVec.ofInt 64 1).toNat = J % 2 := by
    rw [BitVec.toNat_and]
    have h2 : (BitVec.ofInt 64 (J : Int)).toNat = J := by
      rw [BitVec.ofInt_natCast, BitVec.toNat_ofNat]; exact Nat.mod_eq_of_lt (by omega)
    have h3 : (BitVec.ofInt 64 1).toNat = 2 ^ 1 - 1 := by decide
    rw [h2, h3, Nat.and_two_pow_sub_one_eq_mod]
  unfold bits
  show IntKind.u64.wrap (((BitVec.ofInt 64 (J : Int) &&& BitVec.ofInt 64 1).toNat : Nat) : Int) = _
  rw [e]
  simp only [IntKind.wrap, IntKind.bits, IntKind.signed]
  simp
  omega
theorem and7 {J : Nat} (h : J ≤ 1073741824) : bits .and .u64 (J : Int) 7 = ((J % 8 : Nat) : Int) := by
  have e : (BitVec.ofInt 64 (J : Int) &&& BitVec.ofInt 64 7).toNat = J % 8 := by
    rw [BitVec.toNat_and]
    have h2 : (BitVec.ofInt 64 (J : Int)).toNat = J := by
      rw [BitVec.ofInt_natCast, BitVec.toNat_ofNat]; exact Nat.mod_eq_of_lt (by omega)
    have h3 : (BitVec.ofInt 64 7).toNat = 2 ^ 3 - 1 := by decide
    rw [h2, h3, Nat.and_two_pow_sub_one_eq_mod]
  unfold bits
  show IntKind.u64.wrap (((BitVec.ofInt 64 (J : Int) &&& BitVec.ofInt 64 7).toNat : Nat) : Int) = _
  rw [e]
  simp only [IntKind.wrap, IntKind.bits, IntKind.signed]
  simp
  omega
/-- Either road, from the reduced argument on. -/
def SR (z zz y : Nat) : Prop := ∃ m0 a1 m1 a2 m2 a3 m3 a4 m4 p W q, SinH zz m0 a1 m1 a2 m2 a3 m3 a4 m4 p ∧ SinP z zz W p q y
def CR (zz y : Nat) : Prop := ∃ m0 a1 m1 a2 m2 a3 m3 a4 m4 p h a ww q, CosH zz m0 a1 m1 a2 m2 a3 m3 a4 m4 p ∧ CosP zz h a ww p q y

theorem sin_even0p (x z zz y : Nat) (X : Int) (hk : key x = X) (hn : nan x = false) (hx64 : x < 2 ^ 64) (hfin : rung x < infR)
    (h0 : 0 < X) (h1 : X < 4737786807993761792) (v : Nat) (J : Int) (hJ0 : 0 ≤ J) (hJb : J ≤ 1073741823) (Y0 Y m1 d1 m2 d2 m3 : Nat) (hv : floatBits .mul .f64 x kQ = some v) (hJ : floatToIntVal .f64 v .u64 = some J)
    (hb1 : bits .and .u64 J 1 = 0) (hb7 : bits .and .u64 J 7 = 0) (hY : floatOfInt .f64 J = Y)
    (hC : Cody x Y m1 d1 m2 d2 m3 z)
    (hzz : floatBits .mul .f64 z z = some zz) (hR : SR z zz y) (w : World) (T : TabS w) :
    Calls Tryd.prog 17 #[.float .f64 x] w fun e w' => e = .returned (.float .f64 y) ∧ w' = w := by
  have hcv := fun w => conv_u64 hJ w
  obtain ⟨A1, A2, A3, A4, A5, A6⟩ := hC
  obtain ⟨m0', a1', m1', a2', m2', a3', m3', a4', m4', p', W', q', ⟨B0, B1, B2, B3, B4, B5, B6, B7, B8, B9⟩, ⟨D1, D2, D3⟩⟩ := hR
  obtain ⟨fhzz, ehzz⟩ := f_some hzz
  obtain ⟨fB0, eB0⟩ := f_some B0
  obtain ⟨fB1, eB1⟩ := f_some B1
  obtain ⟨fB2, eB2⟩ := f_some B2
  obtain ⟨fB3, eB3⟩ := f_some B3
  obtain ⟨fB4, eB4⟩ := f_some B4
  obtain ⟨fB5, eB5⟩ := f_some B5
  obtain ⟨fB6, eB6⟩ := f_some B6
  obtain ⟨fB7, eB7⟩ := f_some B7
  obtain ⟨fB8, eB8⟩ := f_some B8
  obtain ⟨fB9, eB9⟩ := f_some B9
  obtain ⟨fD1, eD1⟩ := f_some D1
  obtain ⟨fD2, eD2⟩ := f_some D2
  obtain ⟨fD3, eD3⟩ := f_some D3
  obtain ⟨fhv, ehv⟩ := f_some hv
  obtain ⟨fA1, eA1⟩ := f_some A1
  obtain ⟨fA2, eA2⟩ := f_some A2
  obtain ⟨fA3, eA3⟩ := f_some A3
  obtain ⟨fA4, eA4⟩ := f_some A4
  obtain ⟨fA5, eA5⟩ := f_some A5
  obtain ⟨fA6, eA6⟩ := f_some A6
  clear hzz B0 B1 B2 B3 B4 B5 B6 B7 B8 B9 D1 D2 D3 hv A1 A2 A3 A4 A5 A6
  obtain ⟨t0, t1, t2, t3, t4, t5⟩ := T
  have kk : key 4737786807993761792 = 4737786807993761792 := by decide
  have kn : nan 4737786807993761792 = false := by decide
  have hng : ¬ 4737786807993761792 ≤ X := by omega
  have hz : ¬ X = 0 := by omega
  have hlt : ¬ X < 0 := by omega
  have hfi : decide (rung x = infR) = false := decide_eq_false (by omega)
  have HX := Lib.hid hx64
  clear hx64 hfin
  clear hJ
  go_enter Tryd.func17, Tryd.ntmps17
  go_wp2_with (first | (go_at_call 18; refine (isNaNM _ _).mono ?_; rintro e w' ⟨rfl, rfl⟩) | (go_at_call 19; refine (isInfM _ HX.out (by assumption) false hfi _).mono ?_; rintro e w' ⟨rfl, rfl⟩))
  go_ret
  exact ⟨rfl, rfl⟩

theorem sin_even0n (x z zz y : Nat) (X : Int) (hk : key x = X) (hn : nan x = false) (hx64 : x < 2 ^ 64) (hfin : rung x < infR)
    (h0 : 0 < X) (h1 : X < 4737786807993761792) (v : Nat) (J : Int) (hJ0 : 0 ≤ J) (hJb : J ≤ 1073741823) (Y0 Y m1 d1 m2 d2 m3 : Nat) (hv : floatBits .mul .f64 x kQ = some v) (hJ : floatToIntVal .f64 v .u64 = some J)
    (hb1 : bits .and .u64 J 1 = 0) (hb7 : bits .and .u64 J 7 = 0) (hY : floatOfInt .f64 J = Y)
    (hC : Cody x Y m1 d1 m2 d2 m3 z)
    (hzz : floatBits .mul .f64 z z = some zz) (hR : SR z zz y) (w : World) (T : TabS w) :
    Calls Tryd.prog 17 #[.float .f64 (Op.negFloat .f64 x)] w fun e w' => e = .returned (.float .f64 (Op.negFloat .f64 y)) ∧ w' = w := by
  have hcv := fun w => conv_u64 hJ w
  obtain ⟨A1, A2, A3, A4, A5, A6⟩ := hC
  obtain ⟨m0', a1', m1', a2', m2', a3', m3', a4', m4', p', W', q', ⟨B0, B1, B2, B3, B4, B5, B6, B7, B8, B9⟩, ⟨D1, D2, D3⟩⟩ := hR
  obtain ⟨fhzz, ehzz⟩ := f_some hzz
  obtain ⟨fB0, eB0⟩ := f_some B0
  obtain ⟨fB1, eB1⟩ := f_some B1
  obtain ⟨fB2, eB2⟩ := f_some B2
  obtain ⟨fB3, eB3⟩ := f_some B3
  obtain ⟨fB4, eB4⟩ := f_some B4
  obtain ⟨fB5, eB5⟩ := f_some B5
  obtain ⟨fB6, eB6⟩ := f_some B6
  obtain ⟨fB7, eB7⟩ := f_some B7
  obtain ⟨fB8, eB8⟩ := f_some B8
  obtain ⟨fB9, eB9⟩ := f_some B9
  obtain ⟨fD1, eD1⟩ := f_some D1
  obtain ⟨fD2, eD2⟩ := f_some D2
  obtain ⟨fD3, eD3⟩ := f_some D3
  obtain ⟨fhv, ehv⟩ := f_some hv
  obtain ⟨fA1, eA1⟩ := f_some A1
  obtain ⟨fA2, eA2⟩ := f_some A2
  obtain ⟨fA3, eA3⟩ := f_some A3
  obtain ⟨fA4, eA4⟩ := f_some A4
  obtain ⟨fA5, eA5⟩ := f_some A5
  obtain ⟨fA6, eA6⟩ := f_some A6
  clear hzz B0 B1 B2 B3 B4 B5 B6 B7 B8 B9 D1 D2 D3 hv A1 A2 A3 A4 A5 A6
  obtain ⟨t0, t1, t2, t3, t4, t5⟩ := T
  have kk : key 4737786807993761792 = 4737786807993761792 := by decide
  have kn : nan 4737786807993761792 = false := by decide
  have hng : ¬ 4737786807993761792 ≤ X := by omega
  have hky : key (Op.negFloat .f64 x) = -X := by rw [key_neg hx64, hk]
  have hnn : nan (Op.negFloat .f64 x) = false := by rw [nan_neg hx64]; exact hn
  have htw : Op.negFloat .f64 (Op.negFloat .f64 x) = x := negFloat_twice hx64
  have hz : ¬ -X = 0 := by omega
  have hz2 : ¬ X = 0 := by omega
  have hlt : -X < 0 := by omega
  have hlt2 : 0 < X := by omega
  have hfi : decide (rung (Op.negFloat .f64 x) = infR) = false := by rw [rung_neg hx64]; exact decide_eq_false (by omega)
  have HX := Lib.hid (negFloat_lt hx64)
  clear hx64 hfin
  clear hJ
  go_enter Tryd.func17, Tryd.ntmps17
  go_wp2_with (first | (go_at_call 18; refine (isNaNM _ _).mono ?_; rintro e w' ⟨rfl, rfl⟩) | (go_at_call 19; refine (isInfM _ HX.out (by assumption) false hfi _).mono ?_; rintro e w' ⟨rfl, rfl⟩))
  go_ret
  exact ⟨rfl, rfl⟩

theorem sin_even2p (x z zz y : Nat) (X : Int) (hk : key x = X) (hn : nan x = false) (hx64 : x < 2 ^ 64) (hfin : rung x < infR)
    (h0 : 0 < X) (h1 : X < 4737786807993761792) (v : Nat) (J : Int) (hJ0 : 0 ≤ J) (hJb : J ≤ 1073741823) (Y0 Y m1 d1 m2 d2 m3 : Nat) (hv : floatBits .mul .f64 x kQ = some v) (hJ : floatToIntVal .f64 v .u64 = some J)
    (hb1 : bits .and .u64 J 1 = 0) (hb7 : bits .and .u64 J 7 = 2) (hY : floatOfInt .f64 J = Y)
    (hC : Cody x Y m1 d1 m2 d2 m3 z)
    (hzz : floatBits .mul .f64 z z = some zz) (hR : CR zz y) (w : World) (T : TabC w) :
    Calls Tryd.prog 17 #[.float .f64 x] w fun e w' => e = .returned (.float .f64 y) ∧ w' = w := by
  have hcv := fun w => conv_u64 hJ w
  obtain ⟨A1, A2, A3, A4, A5, A6⟩ := hC
  obtain ⟨m0', a1', m1', a2', m2', a3', m3', a4', m4', p', hh', aa', ww', q', ⟨B0, B1, B2, B3, B4, B5, B6, B7, B8, B9⟩, ⟨D1, D2, D3, D4, D5⟩⟩ := hR
  obtain ⟨fhzz, ehzz⟩ := f_some hzz
  obtain ⟨fB0, eB0⟩ := f_some B0
  obtain ⟨fB1, eB1⟩ := f_some B1
  obtain ⟨fB2, eB2⟩ := f_some B2
  obtain ⟨fB3, eB3⟩ := f_some B3
  obtain ⟨fB4, eB4⟩ := f_some B4
  obtain ⟨fB5, eB5⟩ := f_some B5
  obtain ⟨fB6, eB6⟩ := f_some B6
  obtain ⟨fB7, eB7⟩ := f_some B7
  obtain ⟨fB8, eB8⟩ := f_some B8
  obtain ⟨fB9, eB9⟩ := f_some B9
  obtain ⟨fD1, eD1⟩ := f_some D1
  obtain ⟨fD2, eD2⟩ := f_some D2
  obtain ⟨fD3, eD3⟩ := f_some D3
  obtain ⟨fD4, eD4⟩ := f_some D4
  obtain ⟨fD5, eD5⟩ := f_some D5
  obtain ⟨fhv, ehv⟩ := f_some hv
  obtain ⟨fA1, eA1⟩ := f_some A1
  obtain ⟨fA2, eA2⟩ := f_some A2
  obtain ⟨fA3, eA3⟩ := f_some A3
  obtain ⟨fA4, eA4⟩ := f_some A4
  obtain ⟨fA5, eA5⟩ := f_some A5
  obtain ⟨fA6, eA6⟩ := f_some A6
  clear hzz B0 B1 B2 B3 B4 B5 B6 B7 B8 B9 D1 D2 D3 D4 D5 hv A1 A2 A3 A4 A5 A6
  obtain ⟨t0, t1, t2, t3, t4, t5⟩ := T
  have kk : key 4737786807993761792 = 4737786807993761792 := by decide
  have kn : nan 4737786807993761792 = false := by decide
  have hng : ¬ 4737786807993761792 ≤ X := by omega
  have hz : ¬ X = 0 := by omega
  have hlt : ¬ X < 0 := by omega
  have hfi : decide (rung x = infR) = false := decide_eq_false (by omega)
  have HX := Lib.hid hx64
  clear hx64 hfin
  clear hJ
  go_enter Tryd.func17, Tryd.ntmps17
  go_wp2_with (first | (go_at_call 18; refine (isNaNM _ _).mono ?_; rintro e w' ⟨rfl, rfl⟩) | (go_at_call 19; refine (isInfM _ HX.out (by assumption) false hfi _).mono ?_; rintro e w' ⟨rfl, rfl⟩))
  go_ret
  exact ⟨rfl, rfl⟩

theorem sin_even2n (x z zz y : Nat) (X : Int) (hk : key x = X) (hn : nan x = false) (hx64 : x < 2 ^ 64) (hfin : rung x < infR)
    (h0 : 0 < X) (h1 : X < 4737786807993761792) (v : Nat) (J : Int) (hJ0 : 0 ≤ J) (hJb : J ≤ 1073741823) (Y0 Y m1 d1 m2 d2 m3 : Nat) (hv : floatBits .mul .f64 x kQ = some v) (hJ : floatToIntVal .f64 v .u64 = some J)
    (hb1 : bits .and .u64 J 1 = 0) (hb7 : bits .and .u64 J 7 = 2) (hY : floatOfInt .f64 J = Y)
    (hC : Cody x Y m1 d1 m2 d2 m3 z)
    (hzz : floatBits .mul .f64 z z = some zz) (hR : CR zz y) (w : World) (T : TabC w) :
    Calls Tryd.prog 17 #[.float .f64 (Op.negFloat .f64 x)] w fun e w' => e = .returned (.float .f64 (Op.negFloat .f64 y)) ∧ w' = w := by
  have hcv := fun w => conv_u64 hJ w
  obtain ⟨A1, A2, A3, A4, A5, A6⟩ := hC
  obtain ⟨m0', a1', m1', a2', m2', a3', m3', a4', m4', p', hh', aa', ww', q', ⟨B0, B1, B2, B3, B4, B5, B6, B7, B8, B9⟩, ⟨D1, D2, D3, D4, D5⟩⟩ := hR
  obtain ⟨fhzz, ehzz⟩ := f_some hzz
  obtain ⟨fB0, eB0⟩ := f_some B0
  obtain ⟨fB1, eB1⟩ := f_some B1
  obtain ⟨fB2, eB2⟩ := f_some B2
  obtain ⟨fB3, eB3⟩ := f_some B3
  obtain ⟨fB4, eB4⟩ := f_some B4
  obtain ⟨fB5, eB5⟩ := f_some B5
  obtain ⟨fB6, eB6⟩ := f_some B6
  obtain ⟨fB7, eB7⟩ := f_some B7
  obtain ⟨fB8, eB8⟩ := f_some B8
  obtain ⟨fB9, eB9⟩ := f_some B9
  obtain ⟨fD1, eD1⟩ := f_some D1
  obtain ⟨fD2, eD2⟩ := f_some D2
  obtain ⟨fD3, eD3⟩ := f_some D3
  obtain ⟨fD4, eD4⟩ := f_some D4
  obtain ⟨fD5, eD5⟩ := f_some D5
  obtain ⟨fhv, ehv⟩ := f_some hv
  obtain ⟨fA1, eA1⟩ := f_some A1
  obtain ⟨fA2, eA2⟩ := f_some A2
  obtain ⟨fA3, eA3⟩ := f_some A3
  obtain ⟨fA4, eA4⟩ := f_some A4
  obtain ⟨fA5, eA5⟩ := f_some A5
  obtain ⟨fA6, eA6⟩ := f_some A6
  clear hzz B0 B1 B2 B3 B4 B5 B6 B7 B8 B9 D1 D2 D3 D4 D5 hv A1 A2 A3 A4 A5 A6
  obtain ⟨t0, t1, t2, t3, t4, t5⟩ := T
  have kk : key 4737786807993761792 = 4737786807993761792 := by decide
  have kn : nan 4737786807993761792 = false := by decide
  have hng : ¬ 4737786807993761792 ≤ X := by omega
  have hky : key (Op.negFloat .f64 x) = -X := by rw [key_neg hx64, hk]
  have hnn : nan (Op.negFloat .f64 x) = false := by rw [nan_neg hx64]; exact hn
  have htw : Op.negFloat .f64 (Op.negFloat .f64 x) = x := negFloat_twice hx64
  have hz : ¬ -X = 0 := by omega
  have hz2 : ¬ X = 0 := by omega
  have hlt : -X < 0 := by omega
  have hlt2 : 0 < X := by omega
  have hfi : decide (rung (Op.negFloat .f64 x) = infR) = false := by rw [rung_neg hx64]; exact decide_eq_false (by omega)
  have HX := Lib.hid (negFloat_lt hx64)
  clear hx64 hfin
  clear hJ
  go_enter Tryd.func17, Tryd.ntmps17
  go_wp2_with (first | (go_at_call 18; refine (isNaNM _ _).mono ?_; rintro e w' ⟨rfl, rfl⟩) | (go_at_call 19; refine (isInfM _ HX.out (by assumption) false hfi _).mono ?_; rintro e w' ⟨rfl, rfl⟩))
  go_ret
  exact ⟨rfl, rfl⟩

theorem sin_even4p (x z zz y : Nat) (X : Int) (hk : key x = X) (hn : nan x = false) (hx64 : x < 2 ^ 64) (hfin : rung x < infR)
    (h0 : 0 < X) (h1 : X < 4737786807993761792) (v : Nat) (J : Int) (hJ0 : 0 ≤ J) (hJb : J ≤ 1073741823) (Y0 Y m1 d1 m2 d2 m3 : Nat) (hv : floatBits .mul .f64 x kQ = some v) (hJ : floatToIntVal .f64 v .u64 = some J)
    (hb1 : bits .and .u64 J 1 = 0) (hb7 : bits .and .u64 J 7 = 4) (hY : floatOfInt .f64 J = Y)
    (hC : Cody x Y m1 d1 m2 d2 m3 z)
    (hzz : floatBits .mul .f64 z z = some zz) (hR : SR z zz y) (w : World) (T : TabS w) :
    Calls Tryd.prog 17 #[.float .f64 x] w fun e w' => e = .returned (.float .f64 (Op.negFloat .f64 y)) ∧ w' = w := by
  have hcv := fun w => conv_u64 hJ w
  obtain ⟨A1, A2, A3, A4, A5, A6⟩ := hC
  obtain ⟨m0', a1', m1', a2', m2', a3', m3', a4', m4', p', W', q', ⟨B0, B1, B2, B3, B4, B5, B6, B7, B8, B9⟩, ⟨D1, D2, D3⟩⟩ := hR
  obtain ⟨fhzz, ehzz⟩ := f_some hzz
  obtain ⟨fB0, eB0⟩ := f_some B0
  obtain ⟨fB1, eB1⟩ := f_some B1
  obtain ⟨fB2, eB2⟩ := f_some B2
  obtain ⟨fB3, eB3⟩ := f_some B3
  obtain ⟨fB4, eB4⟩ := f_some B4
  obtain ⟨fB5, eB5⟩ := f_some B5
  obtain ⟨fB6, eB6⟩ := f_some B6
  obtain ⟨fB7, eB7⟩ := f_some B7
  obtain ⟨fB8, eB8⟩ := f_some B8
  obtain ⟨fB9, eB9⟩ := f_some B9
  obtain ⟨fD1, eD1⟩ := f_some D1
  obtain ⟨fD2, eD2⟩ := f_some D2
  obtain ⟨fD3, eD3⟩ := f_some D3
  obtain ⟨fhv, ehv⟩ := f_some hv
  obtain ⟨fA1, eA1⟩ := f_some A1
  obtain ⟨fA2, eA2⟩ := f_some A2
  obtain ⟨fA3, eA3⟩ := f_some A3
  obtain ⟨fA4, eA4⟩ := f_some A4
  obtain ⟨fA5, eA5⟩ := f_some A5
  obtain ⟨fA6, eA6⟩ := f_some A6
  clear hzz B0 B1 B2 B3 B4 B5 B6 B7 B8 B9 D1 D2 D3 hv A1 A2 A3 A4 A5 A6
  obtain ⟨t0, t1, t2, t3, t4, t5⟩ := T
  have kk : key 4737786807993761792 = 4737786807993761792 := by decide
  have kn : nan 4737786807993761792 = false := by decide
  have hng : ¬ 4737786807993761792 ≤ X := by omega
  have hz : ¬ X = 0 := by omega
  have hlt : ¬ X < 0 := by omega
  have hfi : decide (rung x = infR) = false := decide_eq_false (by omega)
  have HX := Lib.hid hx64
  clear hx64 hfin
  clear hJ
  go_enter Tryd.func17, Tryd.ntmps17
  go_wp2_with (first | (go_at_call 18; refine (isNaNM _ _).mono ?_; rintro e w' ⟨rfl, rfl⟩) | (go_at_call 19; refine (isInfM _ HX.out (by assumption) false hfi _).mono ?_; rintro e w' ⟨rfl, rfl⟩))
  go_ret
  exact ⟨rfl, rfl⟩

theorem sin_even4n (x z zz y : Nat) (X : Int) (hk : key x = X) (hn : nan x = false) (hx64 : x < 2 ^ 64) (hfin : rung x < infR)
    (h0 : 0 < X) (h1 : X < 4737786807993761792) (v : Nat) (J : Int) (hJ0 : 0 ≤ J) (hJb : J ≤ 1073741823) (Y0 Y m1 d1 m2 d2 m3 : Nat) (hv : floatBits .mul .f64 x kQ = some v) (hJ : floatToIntVal .f64 v .u64 = some J)
    (hb1 : bits .and .u64 J 1 = 0) (hb7 : bits .and .u64 J 7 = 4) (hY : floatOfInt .f64 J = Y)
    (hC : Cody x Y m1 d1 m2 d2 m3 z)
    (hzz : floatBits .mul .f64 z z = some zz) (hR : SR z zz y) (w : World) (T : TabS w) :
    Calls Tryd.prog 17 #[.float .f64 (Op.negFloat .f64 x)] w fun e w' => e = .returned (.float .f64 y) ∧ w' = w := by
  have hcv := fun w => conv_u64 hJ w
  obtain ⟨A1, A2, A3, A4, A5, A6⟩ := hC
  obtain ⟨m0', a1', m1', a2', m2', a3', m3', a4', m4', p', W', q', ⟨B0, B1, B2, B3, B4, B5, B6, B7, B8, B9⟩, ⟨D1, D2, D3⟩⟩ := hR
  obtain ⟨fhzz, ehzz⟩ := f_some hzz
  obtain ⟨fB0, eB0⟩ := f_some B0
  obtain ⟨fB1, eB1⟩ := f_some B1
  obtain ⟨fB2, eB2⟩ := f_some B2
  obtain ⟨fB3, eB3⟩ := f_some B3
  obtain ⟨fB4, eB4⟩ := f_some B4
  obtain ⟨fB5, eB5⟩ := f_some B5
  obtain ⟨fB6, eB6⟩ := f_some B6
  obtain ⟨fB7, eB7⟩ := f_some B7
  obtain ⟨fB8, eB8⟩ := f_some B8
  obtain ⟨fB9, eB9⟩ := f_some B9
  obtain ⟨fD1, eD1⟩ := f_some D1
  obtain ⟨fD2, eD2⟩ := f_some D2
  obtain ⟨fD3, eD3⟩ := f_some D3
  obtain ⟨fhv, ehv⟩ := f_some hv
  obtain ⟨fA1, eA1⟩ := f_some A1
  obtain ⟨fA2, eA2⟩ := f_some A2
  obtain ⟨fA3, eA3⟩ := f_some A3
  obtain ⟨fA4, eA4⟩ := f_some A4
  obtain ⟨fA5, eA5⟩ := f_some A5
  obtain ⟨fA6, eA6⟩ := f_some A6
  clear hzz B0 B1 B2 B3 B4 B5 B6 B7 B8 B9 D1 D2 D3 hv A1 A2 A3 A4 A5 A6
  obtain ⟨t0, t1, t2, t3, t4, t5⟩ := T
  have kk : key 4737786807993761792 = 4737786807993761792 := by decide
  have kn : nan 4737786807993761792 = false := by decide
  have hng : ¬ 4737786807993761792 ≤ X := by omega
  have hky : key (Op.negFloat .f64 x) = -X := by rw [key_neg hx64, hk]
  have hnn : nan (Op.negFloat .f64 x) = false := by rw [nan_neg hx64]; exact hn
  have htw : Op.negFloat .f64 (Op.negFloat .f64 x) = x := negFloat_twice hx64
  have hz : ¬ -X = 0 := by omega
  have hz2 : ¬ X = 0 := by omega
  have hlt : -X < 0 := by omega
  have hlt2 : 0 < X := by omega
  have hfi : decide (rung (Op.negFloat .f64 x) = infR) = false := by rw [rung_neg hx64]; exact decide_eq_false (by omega)
  have HX := Lib.hid (negFloat_lt hx64)
  clear hx64 hfin
  clear hJ
  go_enter Tryd.func17, Tryd.ntmps17
  go_wp2_with (first | (go_at_call 18; refine (isNaNM _ _).mono ?_; rintro e w' ⟨rfl, rfl⟩) | (go_at_call 19; refine (isInfM _ HX.out (by assumption) false hfi _).mono ?_; rintro e w' ⟨rfl, rfl⟩))
  go_ret
  exact ⟨rfl, rfl⟩

theorem sin_even6p (x z zz y : Nat) (X : Int) (hk : key x = X) (hn : nan x = false) (hx64 : x < 2 ^ 64) (hfin : rung x < infR)
    (h0 : 0 < X) (h1 : X < 4737786807993761792) (v : Nat) (J : Int) (hJ0 : 0 ≤ J) (hJb : J ≤ 1073741823) (Y0 Y m1 d1 m2 d2 m3 : Nat) (hv : floatBits .mul .f64 x kQ = some v) (hJ : floatToIntVal .f64 v .u64 = some J)
    (hb1 : bits .and .u64 J 1 = 0) (hb7 : bits .and .u64 J 7 = 6) (hY : floatOfInt .f64 J = Y)
    (hC : Cody x Y m1 d1 m2 d2 m3 z)
    (hzz : floatBits .mul .f64 z z = some zz) (hR : CR zz y) (w : World) (T : TabC w) :
    Calls Tryd.prog 17 #[.float .f64 x] w fun e w' => e = .returned (.float .f64 (Op.negFloat .f64 y)) ∧ w' = w := by
  have hcv := fun w => conv_u64 hJ w
  obtain ⟨A1, A2, A3, A4, A5, A6⟩ := hC
  obtain ⟨m0', a1', m1', a2', m2', a3', m3', a4', m4', p', hh', aa', ww', q', ⟨B0, B1, B2, B3, B4, B5, B6, B7, B8, B9⟩, ⟨D1, D2, D3, D4, D5⟩⟩ := hR
  obtain ⟨fhzz, ehzz⟩ := f_some hzz
  obtain ⟨fB0, eB0⟩ := f_some B0
  obtain ⟨fB1, eB1⟩ := f_some B1
  obtain ⟨fB2, eB2⟩ := f_some B2
  obtain ⟨fB3, eB3⟩ := f_some B3
  obtain ⟨fB4, eB4⟩ := f_some B4
  obtain ⟨fB5, eB5⟩ := f_some B5
  obtain ⟨fB6, eB6⟩ := f_some B6
  obtain ⟨fB7, eB7⟩ := f_some B7
  obtain ⟨fB8, eB8⟩ := f_some B8
  obtain ⟨fB9, eB9⟩ := f_some B9
  obtain ⟨fD1, eD1⟩ := f_some D1
  obtain ⟨fD2, eD2⟩ := f_some D2
  obtain ⟨fD3, eD3⟩ := f_some D3
  obtain ⟨fD4, eD4⟩ := f_some D4
  obtain ⟨fD5, eD5⟩ := f_some D5
  obtain ⟨fhv, ehv⟩ := f_some hv
  obtain ⟨fA1, eA1⟩ := f_some A1
  obtain ⟨fA2, eA2⟩ := f_some A2
  obtain ⟨fA3, eA3⟩ := f_some A3
  obtain ⟨fA4, eA4⟩ := f_some A4
  obtain ⟨fA5, eA5⟩ := f_some A5
  obtain ⟨fA6, eA6⟩ := f_some A6
  clear hzz B0 B1 B2 B3 B4 B5 B6 B7 B8 B9 D1 D2 D3 D4 D5 hv A1 A2 A3 A4 A5 A6
  obtain ⟨t0, t1, t2, t3, t4, t5⟩ := T
  have kk : key 4737786807993761792 = 4737786807993761792 := by decide
  have kn : nan 4737786807993761792 = false := by decide
  have hng : ¬ 4737786807993761792 ≤ X := by omega
  have hz : ¬ X = 0 := by omega
  have hlt : ¬ X < 0 := by omega
  have hfi : decide (rung x = infR) = false := decide_eq_false (by omega)
  have HX := Lib.hid hx64
  clear hx64 hfin
  clear hJ
  go_enter Tryd.func17, Tryd.ntmps17
  go_wp2_with (first | (go_at_call 18; refine (isNaNM _ _).mono ?_; rintro e w' ⟨rfl, rfl⟩) | (go_at_call 19; refine (isInfM _ HX.out (by assumption) false hfi _).mono ?_; rintro e w' ⟨rfl, rfl⟩))
  go_ret
  exact ⟨rfl, rfl⟩

theorem sin_even6n (x z zz y : Nat) (X : Int) (hk : key x = X) (hn : nan x = false) (hx64 : x < 2 ^ 64) (hfin : rung x < infR)
    (h0 : 0 < X) (h1 : X < 4737786807993761792) (v : Nat) (J : Int) (hJ0 : 0 ≤ J) (hJb : J ≤ 1073741823) (Y0 Y m1 d1 m2 d2 m3 : Nat) (hv : floatBits .mul .f64 x kQ = some v) (hJ : floatToIntVal .f64 v .u64 = some J)
    (hb1 : bits .and .u64 J 1 = 0) (hb7 : bits .and .u64 J 7 = 6) (hY : floatOfInt .f64 J = Y)
    (hC : Cody x Y m1 d1 m2 d2 m3 z)
    (hzz : floatBits .mul .f64 z z = some zz) (hR : CR zz y) (w : World) (T : TabC w) :
    Calls Tryd.prog 17 #[.float .f64 (Op.negFloat .f64 x)] w fun e w' => e = .returned (.float .f64 y) ∧ w' = w := by
  have hcv := fun w => conv_u64 hJ w
  obtain ⟨A1, A2, A3, A4, A5, A6⟩ := hC
  obtain ⟨m0', a1', m1', a2', m2', a3', m3', a4', m4', p', hh', aa', ww', q', ⟨B0, B1, B2, B3, B4, B5, B6, B7, B8, B9⟩, ⟨D1, D2, D3, D4, D5⟩⟩ := hR
  obtain ⟨fhzz, ehzz⟩ := f_some hzz
  obtain ⟨fB0, eB0⟩ := f_some B0
  obtain ⟨fB1, eB1⟩ := f_some B1
  obtain ⟨fB2, eB2⟩ := f_some B2
  obtain ⟨fB3, eB3⟩ := f_some B3
  obtain ⟨fB4, eB4⟩ := f_some B4
  obtain ⟨fB5, eB5⟩ := f_some B5
  obtain ⟨fB6, eB6⟩ := f_some B6
  obtain ⟨fB7, eB7⟩ := f_some B7
  obtain ⟨fB8, eB8⟩ := f_some B8
  obtain ⟨fB9, eB9⟩ := f_some B9
  obtain ⟨fD1, eD1⟩ := f_some D1
  obtain ⟨fD2, eD2⟩ := f_some D2
  obtain ⟨fD3, eD3⟩ := f_some D3
  obtain ⟨fD4, eD4⟩ := f_some D4
  obtain ⟨fD5, eD5⟩ := f_some D5
  obtain ⟨fhv, ehv⟩ := f_some hv
  obtain ⟨fA1, eA1⟩ := f_some A1
  obtain ⟨fA2, eA2⟩ := f_some A2
  obtain ⟨fA3, eA3⟩ := f_some A3
  obtain ⟨fA4, eA4⟩ := f_some A4
  obtain ⟨fA5, eA5⟩ := f_some A5
  obtain ⟨fA6, eA6⟩ := f_some A6
  clear hzz B0 B1 B2 B3 B4 B5 B6 B7 B8 B9 D1 D2 D3 D4 D5 hv A1 A2 A3 A4 A5 A6
  obtain ⟨t0, t1, t2, t3, t4, t5⟩ := T
  have kk : key 4737786807993761792 = 4737786807993761792 := by decide
  have kn : nan 4737786807993761792 = false := by decide
  have hng : ¬ 4737786807993761792 ≤ X := by omega
  have hky : key (Op.negFloat .f64 x) = -X := by rw [key_neg hx64, hk]
  have hnn : nan (Op.negFloat .f64 x) = false := by rw [nan_neg hx64]; exact hn
  have htw : Op.negFloat .f64 (Op.negFloat .f64 x) = x := negFloat_twice hx64
  have hz : ¬ -X = 0 := by omega
  have hz2 : ¬ X = 0 := by omega
  have hlt : -X < 0 := by omega
  have hlt2 : 0 < X := by omega
  have hfi : decide (rung (Op.negFloat .f64 x) = infR) = false := by rw [rung_neg hx64]; exact decide_eq_false (by omega)
  have HX := Lib.hid (negFloat_lt hx64)
  clear hx64 hfin
  clear hJ
  go_enter Tryd.func17, Tryd.ntmps17
  go_wp2_with (first | (go_at_call 18; refine (isNaNM _ _).mono ?_; rintro e w' ⟨rfl, rfl⟩) | (go_at_call 19; refine (isInfM _ HX.out (by assumption) false hfi _).mono ?_; rintro e w' ⟨rfl, rfl⟩))
  go_ret
  exact ⟨rfl, rfl⟩

theorem sin_odd0p (x z zz y : Nat) (X : Int) (hk : key x = X) (hn : nan x = false) (hx64 : x < 2 ^ 64) (hfin : rung x < infR)
    (h0 : 0 < X) (h1 : X < 4737786807993761792) (v : Nat) (J : Int) (hJ0 : 0 ≤ J) (hJb : J ≤ 1073741823) (Y0 Y m1 d1 m2 d2 m3 : Nat) (hv : floatBits .mul .f64 x kQ = some v) (hJ : floatToIntVal .f64 v .u64 = some J)
    (hb1 : bits .and .u64 J 1 = 1) (hb7 : bits .and .u64 (J + 1) 7 = 0) (hY : floatOfInt .f64 J = Y0) (hY1 : floatBits .add .f64 Y0 one' = some Y)
    (hC : Cody x Y m1 d1 m2 d2 m3 z)
    (hzz : floatBits .mul .f64 z z = some zz) (hR : SR z zz y) (w : World) (T : TabS w) :
    Calls Tryd.prog 17 #[.float .f64 x] w fun e w' => e = .returned (.float .f64 y) ∧ w' = w := by
  have hcv := fun w => conv_u64 hJ w
  obtain ⟨A1, A2, A3, A4, A5, A6⟩ := hC
  obtain ⟨m0', a1', m1', a2', m2', a3', m3', a4', m4', p', W', q', ⟨B0, B1, B2, B3, B4, B5, B6, B7, B8, B9⟩, ⟨D1, D2, D3⟩⟩ := hR
  obtain ⟨fhzz, ehzz⟩ := f_some hzz
  obtain ⟨fB0, eB0⟩ := f_some B0
  obtain ⟨fB1, eB1⟩ := f_some B1
  obtain ⟨fB2, eB2⟩ := f_some B2
  obtain ⟨fB3, eB3⟩ := f_some B3
  obtain ⟨fB4, eB4⟩ := f_some B4
  obtain ⟨fB5, eB5⟩ := f_some B5
  obtain ⟨fB6, eB6⟩ := f_some B6
  obtain ⟨fB7, eB7⟩ := f_some B7
  obtain ⟨fB8, eB8⟩ := f_some B8
  obtain ⟨fB9, eB9⟩ := f_some B9
  obtain ⟨fD1, eD1⟩ := f_some D1
  obtain ⟨fD2, eD2⟩ := f_some D2
  obtain ⟨fD3, eD3⟩ := f_some D3
  obtain ⟨fhv, ehv⟩ := f_some hv
  obtain ⟨fA1, eA1⟩ := f_some A1
  obtain ⟨fA2, eA2⟩ := f_some A2
  obtain ⟨fA3, eA3⟩ := f_some A3
  obtain ⟨fA4, eA4⟩ := f_some A4
  obtain ⟨fA5, eA5⟩ := f_some A5
  obtain ⟨fA6, eA6⟩ := f_some A6
  obtain ⟨fhY1, ehY1⟩ := f_some hY1
  clear hzz B0 B1 B2 B3 B4 B5 B6 B7 B8 B9 D1 D2 D3 hv A1 A2 A3 A4 A5 A6 hY1
  obtain ⟨t0, t1, t2, t3, t4, t5⟩ := T
  have kk : key 4737786807993761792 = 4737786807993761792 := by decide
  have kn : nan 4737786807993761792 = false := by decide
  have hng : ¬ 4737786807993761792 ≤ X := by omega
  have hz : ¬ X = 0 := by omega
  have hlt : ¬ X < 0 := by omega
  have hfi : decide (rung x = infR) = false := decide_eq_false (by omega)
  have HX := Lib.hid hx64
  clear hx64 hfin
  clear hJ
  go_enter Tryd.func17, Tryd.ntmps17
  go_wp2_with (first | (go_at_call 18; refine (isNaNM _ _).mono ?_; rintro e w' ⟨rfl, rfl⟩) | (go_at_call 19; refine (isInfM _ HX.out (by assumption) false hfi _).mono ?_; rintro e w' ⟨rfl, rfl⟩))
  go_ret
  exact ⟨rfl, rfl⟩

theorem sin_odd0n (x z zz y : Nat) (X : Int) (hk : key x = X) (hn : nan x = false) (hx64 : x < 2 ^ 64) (hfin : rung x < infR)
    (h0 : 0 < X) (h1 : X < 4737786807993761792) (v : Nat) (J : Int) (hJ0 : 0 ≤ J) (hJb : J ≤ 1073741823) (Y0 Y m1 d1 m2 d2 m3 : Nat) (hv : floatBits .mul .f64 x kQ = some v) (hJ : floatToIntVal .f64 v .u64 = some J)
    (hb1 : bits .and .u64 J 1 = 1) (hb7 : bits .and .u64 (J + 1) 7 = 0) (hY : floatOfInt .f64 J = Y0) (hY1 : floatBits .add .f64 Y0 one' = some Y)
    (hC : Cody x Y m1 d1 m2 d2 m3 z)
    (hzz : floatBits .mul .f64 z z = some zz) (hR : SR z zz y) (w : World) (T : TabS w) :
    Calls Tryd.prog 17 #[.float .f64 (Op.negFloat .f64 x)] w fun e w' => e = .returned (.float .f64 (Op.negFloat .f64 y)) ∧ w' = w := by
  have hcv := fun w => conv_u64 hJ w
  obtain ⟨A1, A2, A3, A4, A5, A6⟩ := hC
  obtain ⟨m0', a1', m1', a2', m2', a3', m3', a4', m4', p', W', q', ⟨B0, B1, B2, B3, B4, B5, B6, B7, B8, B9⟩, ⟨D1, D2, D3⟩⟩ := hR
  obtain ⟨fhzz, ehzz⟩ := f_some hzz
  obtain ⟨fB0, eB0⟩ := f_some B0
  obtain ⟨fB1, eB1⟩ := f_some B1
  obtain ⟨fB2, eB2⟩ := f_some B2
  obtain ⟨fB3, eB3⟩ := f_some B3
  obtain ⟨fB4, eB4⟩ := f_some B4
  obtain ⟨fB5, eB5⟩ := f_some B5
  obtain ⟨fB6, eB6⟩ := f_some B6
  obtain ⟨fB7, eB7⟩ := f_some B7
  obtain ⟨fB8, eB8⟩ := f_some B8
  obtain ⟨fB9, eB9⟩ := f_some B9
  obtain ⟨fD1, eD1⟩ := f_some D1
  obtain ⟨fD2, eD2⟩ := f_some D2
  obtain ⟨fD3, eD3⟩ := f_some D3
  obtain ⟨fhv, ehv⟩ := f_some hv
  obtain ⟨fA1, eA1⟩ := f_some A1
  obtain ⟨fA2, eA2⟩ := f_some A2
  obtain ⟨fA3, eA3⟩ := f_some A3
  obtain ⟨fA4, eA4⟩ := f_some A4
  obtain ⟨fA5, eA5⟩ := f_some A5
  obtain ⟨fA6, eA6⟩ := f_some A6
  obtain ⟨fhY1, ehY1⟩ := f_some hY1
  clear hzz B0 B1 B2 B3 B4 B5 B6 B7 B8 B9 D1 D2 D3 hv A1 A2 A3 A4 A5 A6 hY1
  obtain ⟨t0, t1, t2, t3, t4, t5⟩ := T
  have kk : key 4737786807993761792 = 4737786807993761792 := by decide
  have kn : nan 4737786807993761792 = false := by decide
  have hng : ¬ 4737786807993761792 ≤ X := by omega
  have hky : key (Op.negFloat .f64 x) = -X := by rw [key_neg hx64, hk]
  have hnn : nan (Op.negFloat .f64 x) = false := by rw [nan_neg hx64]; exact hn
  have htw : Op.negFloat .f64 (Op.negFloat .f64 x) = x := negFloat_twice hx64
  have hz : ¬ -X = 0 := by omega
  have hz2 : ¬ X = 0 := by omega
  have hlt : -X < 0 := by omega
  have hlt2 : 0 < X := by omega
  have hfi : decide (rung (Op.negFloat .f64 x) = infR) = false := by rw [rung_neg hx64]; exact decide_eq_false (by omega)
  have HX := Lib.hid (negFloat_lt hx64)
  clear hx64 hfin
  clear hJ
  go_enter Tryd.func17, Tryd.ntmps17
  go_wp2_with (first | (go_at_call 18; refine (isNaNM _ _).mono ?_; rintro e w' ⟨rfl, rfl⟩) | (go_at_call 19; refine (isInfM _ HX.out (by assumption) false hfi _).mono ?_; rintro e w' ⟨rfl, rfl⟩))
  go_ret
  exact ⟨rfl, rfl⟩

theorem sin_odd2p (x z zz y : Nat) (X : Int) (hk : key x = X) (hn : nan x = false) (hx64 : x < 2 ^ 64) (hfin : rung x < infR)
    (h0 : 0 < X) (h1 : X < 4737786807993761792) (v : Nat) (J : Int) (hJ0 : 0 ≤ J) (hJb : J ≤ 1073741823) (Y0 Y m1 d1 m2 d2 m3 : Nat) (hv : floatBits .mul .f64 x kQ = some v) (hJ : floatToIntVal .f64 v .u64 = some J)
    (hb1 : bits .and .u64 J 1 = 1) (hb7 : bits .and .u64 (J + 1) 7 = 2) (hY : floatOfInt .f64 J = Y0) (hY1 : floatBits .add .f64 Y0 one' = some Y)
    (hC : Cody x Y m1 d1 m2 d2 m3 z)
    (hzz : floatBits .mul .f64 z z = some zz) (hR : CR zz y) (w : World) (T : TabC w) :
    Calls Tryd.prog 17 #[.float .f64 x] w fun e w' => e = .returned (.float .f64 y) ∧ w' = w := by
  have hcv := fun w => conv_u64 hJ w
  obtain ⟨A1, A2, A3, A4, A5, A6⟩ := hC
  obtain ⟨m0', a1', m1', a2', m2', a3', m3', a4', m4', p', hh', aa', ww', q', ⟨B0, B1, B2, B3, B4, B5, B6, B7, B8, B9⟩, ⟨D1, D2, D3, D4, D5⟩⟩ := hR
  obtain ⟨fhzz, ehzz⟩ := f_some hzz
  obtain ⟨fB0, eB0⟩ := f_some B0
  obtain ⟨fB1, eB1⟩ := f_some B1
  obtain ⟨fB2, eB2⟩ := f_some B2
  obtain ⟨fB3, eB3⟩ := f_some B3
  obtain ⟨fB4, eB4⟩ := f_some B4
  obtain ⟨fB5, eB5⟩ := f_some B5
  obtain ⟨fB6, eB6⟩ := f_some B6
  obtain ⟨fB7, eB7⟩ := f_some B7
  obtain ⟨fB8, eB8⟩ := f_some B8
  obtain ⟨fB9, eB9⟩ := f_some B9
  obtain ⟨fD1, eD1⟩ := f_some D1
  obtain ⟨fD2, eD2⟩ := f_some D2
  obtain ⟨fD3, eD3⟩ := f_some D3
  obtain ⟨fD4, eD4⟩ := f_some D4
  obtain ⟨fD5, eD5⟩ := f_some D5
  obtain ⟨fhv, ehv⟩ := f_some hv
  obtain ⟨fA1, eA1⟩ := f_some A1
  obtain ⟨fA2, eA2⟩ := f_some A2
  obtain ⟨fA3, eA3⟩ := f_some A3
  obtain ⟨fA4, eA4⟩ := f_some A4
  obtain ⟨fA5, eA5⟩ := f_some A5
  obtain ⟨fA6, eA6⟩ := f_some A6
  obtain ⟨fhY1, ehY1⟩ := f_some hY1
  clear hzz B0 B1 B2 B3 B4 B5 B6 B7 B8 B9 D1 D2 D3 D4 D5 hv A1 A2 A3 A4 A5 A6 hY1
  obtain ⟨t0, t1, t2, t3, t4, t5⟩ := T
  have kk : key 4737786807993761792 = 4737786807993761792 := by decide
  have kn : nan 4737786807993761792 = false := by decide
  have hng : ¬ 4737786807993761792 ≤ X := by omega
  have hz : ¬ X = 0 := by omega
  have hlt : ¬ X < 0 := by omega
  have hfi : decide (rung x = infR) = false := decide_eq_false (by omega)
  have HX := Lib.hid hx64
  clear hx64 hfin
  clear hJ
  go_enter Tryd.func17, Tryd.ntmps17
  go_wp2_with (first | (go_at_call 18; refine (isNaNM _ _).mono ?_; rintro e w' ⟨rfl, rfl⟩) | (go_at_call 19; refine (isInfM _ HX.out (by assumption) false hfi _).mono ?_; rintro e w' ⟨rfl, rfl⟩))
  go_ret
  exact ⟨rfl, rfl⟩

theorem sin_odd2n (x z zz y : Nat) (X : Int) (hk : key x = X) (hn : nan x = false) (hx64 : x < 2 ^ 64) (hfin : rung x < infR)
    (h0 : 0 < X) (h1 : X < 4737786807993761792) (v : Nat) (J : Int) (hJ0 : 0 ≤ J) (hJb : J ≤ 1073741823) (Y0 Y m1 d1 m2 d2 m3 : Nat) (hv : floatBits .mul .f64 x kQ = some v) (hJ : floatToIntVal .f64 v .u64 = some J)
    (hb1 : bits .and .u64 J 1 = 1) (hb7 : bits .and .u64 (J + 1) 7 = 2) (hY : floatOfInt .f64 J = Y0) (hY1 : floatBits .add .f64 Y0 one' = some Y)
    (hC : Cody x Y m1 d1 m2 d2 m3 z)
    (hzz : floatBits .mul .f64 z z = some zz) (hR : CR zz y) (w : World) (T : TabC w) :
    Calls Tryd.prog 17 #[.float .f64 (Op.negFloat .f64 x)] w fun e w' => e = .returned (.float .f64 (Op.negFloat .f64 y)) ∧ w' = w := by
  have hcv := fun w => conv_u64 hJ w
  obtain ⟨A1, A2, A3, A4, A5, A6⟩ := hC
  obtain ⟨m0', a1', m1', a2', m2', a3', m3', a4', m4', p', hh', aa', ww', q', ⟨B0, B1, B2, B3, B4, B5, B6, B7, B8, B9⟩, ⟨D1, D2, D3, D4, D5⟩⟩ := hR
  obtain ⟨fhzz, ehzz⟩ := f_some hzz
  obtain ⟨fB0, eB0⟩ := f_some B0
  obtain ⟨fB1, eB1⟩ := f_some B1
  obtain ⟨fB2, eB2⟩ := f_some B2
  obtain ⟨fB3, eB3⟩ := f_some B3
  obtain ⟨fB4, eB4⟩ := f_some B4
  obtain ⟨fB5, eB5⟩ := f_some B5
  obtain ⟨fB6, eB6⟩ := f_some B6
  obtain ⟨fB7, eB7⟩ := f_some B7
  obtain ⟨fB8, eB8⟩ := f_some B8
  obtain ⟨fB9, eB9⟩ := f_some B9
  obtain ⟨fD1, eD1⟩ := f_some D1
  obtain ⟨fD2, eD2⟩ := f_some D2
  obtain ⟨fD3, eD3⟩ := f_some D3
  obtain ⟨fD4, eD4⟩ := f_some D4
  obtain ⟨fD5, eD5⟩ := f_some D5
  obtain ⟨fhv, ehv⟩ := f_some hv
  obtain ⟨fA1, eA1⟩ := f_some A1
  obtain ⟨fA2, eA2⟩ := f_some A2
  obtain ⟨fA3, eA3⟩ := f_some A3
  obtain ⟨fA4, eA4⟩ := f_some A4
  obtain ⟨fA5, eA5⟩ := f_some A5
  obtain ⟨fA6, eA6⟩ := f_some A6
  obtain ⟨fhY1, ehY1⟩ := f_some hY1
  clear hzz B0 B1 B2 B3 B4 B5 B6 B7 B8 B9 D1 D2 D3 D4 D5 hv A1 A2 A3 A4 A5 A6 hY1
  obtain ⟨t0, t1, t2, t3, t4, t5⟩ := T
  have kk : key 4737786807993761792 = 4737786807993761792 := by decide
  have kn : nan 4737786807993761792 = false := by decide
  have hng : ¬ 4737786807993761792 ≤ X := by omega
  have hky : key (Op.negFloat .f64 x) = -X := by rw [key_neg hx64, hk]
  have hnn : nan (Op.negFloat .f64 x) = false := by rw [nan_neg hx64]; exact hn
  have htw : Op.negFloat .f64 (Op.negFloat .f64 x) = x := negFloat_twice hx64
  have hz : ¬ -X = 0 := by omega
  have hz2 : ¬ X = 0 := by omega
  have hlt : -X < 0 := by omega
  have hlt2 : 0 < X := by omega
  have hfi : decide (rung (Op.negFloat .f64 x) = infR) = false := by rw [rung_neg hx64]; exact decide_eq_false (by omega)
  have HX := Lib.hid (negFloat_lt hx64)
  clear hx64 hfin
  clear hJ
  go_enter Tryd.func17, Tryd.ntmps17
  go_wp2_with (first | (go_at_call 18; refine (isNaNM _ _).mono ?_; rintro e w' ⟨rfl, rfl⟩) | (go_at_call 19; refine (isInfM _ HX.out (by assumption) false hfi _).mono ?_; rintro e w' ⟨rfl, rfl⟩))
  go_ret
  exact ⟨rfl, rfl⟩

theorem sin_odd4p (x z zz y : Nat) (X : Int) (hk : key x = X) (hn : nan x = false) (hx64 : x < 2 ^ 64) (hfin : rung x < infR)
    (h0 : 0 < X) (h1 : X < 4737786807993761792) (v : Nat) (J : Int) (hJ0 : 0 ≤ J) (hJb : J ≤ 1073741823) (Y0 Y m1 d1 m2 d2 m3 : Nat) (hv : floatBits .mul .f64 x kQ = some v) (hJ : floatToIntVal .f64 v .u64 = some J)
    (hb1 : bits .and .u64 J 1 = 1) (hb7 : bits .and .u64 (J + 1) 7 = 4) (hY : floatOfInt .f64 J = Y0) (hY1 : floatBits .add .f64 Y0 one' = some Y)
    (hC : Cody x Y m1 d1 m2 d2 m3 z)
    (hzz : floatBits .mul .f64 z z = some zz) (hR : SR z zz y) (w : World) (T : TabS w) :
    Calls Tryd.prog 17 #[.float .f64 x] w fun e w' => e = .returned (.float .f64 (Op.negFloat .f64 y)) ∧ w' = w := by
  have hcv := fun w => conv_u64 hJ w
  obtain ⟨A1, A2, A3, A4, A5, A6⟩ := hC
  obtain ⟨m0', a1', m1', a2', m2', a3', m3', a4', m4', p', W', q', ⟨B0, B1, B2, B3, B4, B5, B6, B7, B8, B9⟩, ⟨D1, D2, D3⟩⟩ := hR
  obtain ⟨fhzz, ehzz⟩ := f_some hzz
  obtain ⟨fB0, eB0⟩ := f_some B0
  obtain ⟨fB1, eB1⟩ := f_some B1
  obtain ⟨fB2, eB2⟩ := f_some B2
  obtain ⟨fB3, eB3⟩ := f_some B3
  obtain ⟨fB4, eB4⟩ := f_some B4
  obtain ⟨fB5, eB5⟩ := f_some B5
  obtain ⟨fB6, eB6⟩ := f_some B6
  obtain ⟨fB7, eB7⟩ := f_some B7
  obtain ⟨fB8, eB8⟩ := f_some B8
  obtain ⟨fB9, eB9⟩ := f_some B9
  obtain ⟨fD1, eD1⟩ := f_some D1
  obtain ⟨fD2, eD2⟩ := f_some D2
  obtain ⟨fD3, eD3⟩ := f_some D3
  obtain ⟨fhv, ehv⟩ := f_some hv
  obtain ⟨fA1, eA1⟩ := f_some A1
  obtain ⟨fA2, eA2⟩ := f_some A2
  obtain ⟨fA3, eA3⟩ := f_some A3
  obtain ⟨fA4, eA4⟩ := f_some A4
  obtain ⟨fA5, eA5⟩ := f_some A5
  obtain ⟨fA6, eA6⟩ := f_some A6
  obtain ⟨fhY1, ehY1⟩ := f_some hY1
  clear hzz B0 B1 B2 B3 B4 B5 B6 B7 B8 B9 D1 D2 D3 hv A1 A2 A3 A4 A5 A6 hY1
  obtain ⟨t0, t1, t2, t3, t4, t5⟩ := T
  have kk : key 4737786807993761792 = 4737786807993761792 := by decide
  have kn : nan 4737786807993761792 = false := by decide
  have hng : ¬ 4737786807993761792 ≤ X := by omega
  have hz : ¬ X = 0 := by omega
  have hlt : ¬ X < 0 := by omega
  have hfi : decide (rung x = infR) = false := decide_eq_false (by omega)
  have HX := Lib.hid hx64
  clear hx64 hfin
  clear hJ
  go_enter Tryd.func17, Tryd.ntmps17
  go_wp2_with (first | (go_at_call 18; refine (isNaNM _ _).mono ?_; rintro e w' ⟨rfl, rfl⟩) | (go_at_call 19; refine (isInfM _ HX.out (by assumption) false hfi _).mono ?_; rintro e w' ⟨rfl, rfl⟩))
  go_ret
  exact ⟨rfl, rfl⟩

theorem sin_odd4n (x z zz y : Nat) (X : Int) (hk : key x = X) (hn : nan x = false) (hx64 : x < 2 ^ 64) (hfin : rung x < infR)
    (h0 : 0 < X) (h1 : X < 4737786807993761792) (v : Nat) (J : Int) (hJ0 : 0 ≤ J) (hJb : J ≤ 1073741823) (Y0 Y m1 d1 m2 d2 m3 : Nat) (hv : floatBits .mul .f64 x kQ = some v) (hJ : floatToIntVal .f64 v .u64 = some J)
    (hb1 : bits .and .u64 J 1 = 1) (hb7 : bits .and .u64 (J + 1) 7 = 4) (hY : floatOfInt .f64 J = Y0) (hY1 : floatBits .add .f64 Y0 one' = some Y)
    (hC : Cody x Y m1 d1 m2 d2 m3 z)
    (hzz : floatBits .mul .f64 z z = some zz) (hR : SR z zz y) (w : World) (T : TabS w) :
    Calls Tryd.prog 17 #[.float .f64 (Op.negFloat .f64 x)] w fun e w' => e = .returned (.float .f64 y) ∧ w' = w := by
  have hcv := fun w => conv_u64 hJ w
  obtain ⟨A1, A2, A3, A4, A5, A6⟩ := hC
  obtain ⟨m0', a1', m1', a2', m2', a3', m3', a4', m4', p', W', q', ⟨B0, B1, B2, B3, B4, B5, B6, B7, B8, B9⟩, ⟨D1, D2, D3⟩⟩ := hR
  obtain ⟨fhzz, ehzz⟩ := f_some hzz
  obtain ⟨fB0, eB0⟩ := f_some B0
  obtain ⟨fB1, eB1⟩ := f_some B1
  obtain ⟨fB2, eB2⟩ := f_some B2
  obtain ⟨fB3, eB3⟩ := f_some B3
  obtain ⟨fB4, eB4⟩ := f_some B4
  obtain ⟨fB5, eB5⟩ := f_some B5
  obtain ⟨fB6, eB6⟩ := f_some B6
  obtain ⟨fB7, eB7⟩ := f_some B7
  obtain ⟨fB8, eB8⟩ := f_some B8
  obtain ⟨fB9, eB9⟩ := f_some B9
  obtain ⟨fD1, eD1⟩ := f_some D1
  obtain ⟨fD2, eD2⟩ := f_some D2
  obtain ⟨fD3, eD3⟩ := f_some D3
  obtain ⟨fhv, ehv⟩ := f_some hv
  obtain ⟨fA1, eA1⟩ := f_some A1
  obtain ⟨fA2, eA2⟩ := f_some A2
  obtain ⟨fA3, eA3⟩ := f_some A3
  obtain ⟨fA4, eA4⟩ := f_some A4
  obtain ⟨fA5, eA5⟩ := f_some A5
  obtain ⟨fA6, eA6⟩ := f_some A6
  obtain ⟨fhY1, ehY1⟩ := f_some hY1
  clear hzz B0 B1 B2 B3 B4 B5 B6 B7 B8 B9 D1 D2 D3 hv A1 A2 A3 A4 A5 A6 hY1
  obtain ⟨t0, t1, t2, t3, t4, t5⟩ := T
  have kk : key 4737786807993761792 = 4737786807993761792 := by decide
  have kn : nan 4737786807993761792 = false := by decide
  have hng : ¬ 4737786807993761792 ≤ X := by omega
  have hky : key (Op.negFloat .f64 x) = -X := by rw [key_neg hx64, hk]
  have hnn : nan (Op.negFloat .f64 x) = false := by rw [nan_neg hx64]; exact hn
  have htw : Op.negFloat .f64 (Op.negFloat .f64 x) = x := negFloat_twice hx64
  have hz : ¬ -X = 0 := by omega
  have hz2 : ¬ X = 0 := by omega
  have hlt : -X < 0 := by omega
  have hlt2 : 0 < X := by omega
  have hfi : decide (rung (Op.negFloat .f64 x) = infR) = false := by rw [rung_neg hx64]; exact decide_eq_false (by omega)
  have HX := Lib.hid (negFloat_lt hx64)
  clear hx64 hfin
  clear hJ
  go_enter Tryd.func17, Tryd.ntmps17
  go_wp2_with (first | (go_at_call 18; refine (isNaNM _ _).mono ?_; rintro e w' ⟨rfl, rfl⟩) | (go_at_call 19; refine (isInfM _ HX.out (by assumption) false hfi _).mono ?_; rintro e w' ⟨rfl, rfl⟩))
  go_ret
  exact ⟨rfl, rfl⟩

theorem sin_odd6p (x z zz y : Nat) (X : Int) (hk : key x = X) (hn : nan x = false) (hx64 : x < 2 ^ 64) (hfin : rung x < infR)
    (h0 : 0 < X) (h1 : X < 4737786807993761792) (v : Nat) (J : Int) (hJ0 : 0 ≤ J) (hJb : J ≤ 1073741823) (Y0 Y m1 d1 m2 d2 m3 : Nat) (hv : floatBits .mul .f64 x kQ = some v) (hJ : floatToIntVal .f64 v .u64 = some J)
    (hb1 : bits .and .u64 J 1 = 1) (hb7 : bits .and .u64 (J + 1) 7 = 6) (hY : floatOfInt .f64 J = Y0) (hY1 : floatBits .add .f64 Y0 one' = some Y)
    (hC : Cody x Y m1 d1 m2 d2 m3 z)
    (hzz : floatBits .mul .f64 z z = some zz) (hR : CR zz y) (w : World) (T : TabC w) :
    Calls Tryd.prog 17 #[.float .f64 x] w fun e w' => e = .returned (.float .f64 (Op.negFloat .f64 y)) ∧ w' = w := by
  have hcv := fun w => conv_u64 hJ w
  obtain ⟨A1, A2, A3, A4, A5, A6⟩ := hC
  obtain ⟨m0', a1', m1', a2', m2', a3', m3', a4', m4', p', hh', aa', ww', q', ⟨B0, B1, B2, B3, B4, B5, B6, B7, B8, B9⟩, ⟨D1, D2, D3, D4, D5⟩⟩ := hR
  obtain ⟨fhzz, ehzz⟩ := f_some hzz
  obtain ⟨fB0, eB0⟩ := f_some B0
  obtain ⟨fB1, eB1⟩ := f_some B1
  obtain ⟨fB2, eB2⟩ := f_some B2
  obtain ⟨fB3, eB3⟩ := f_some B3
  obtain ⟨fB4, eB4⟩ := f_some B4
  obtain ⟨fB5, eB5⟩ := f_some B5
  obtain ⟨fB6, eB6⟩ := f_some B6
  obtain ⟨fB7, eB7⟩ := f_some B7
  obtain ⟨fB8, eB8⟩ := f_some B8
  obtain ⟨fB9, eB9⟩ := f_some B9
  obtain ⟨fD1, eD1⟩ := f_some D1
  obtain ⟨fD2, eD2⟩ := f_some D2
  obtain ⟨fD3, eD3⟩ := f_some D3
  obtain ⟨fD4, eD4⟩ := f_some D4
  obtain ⟨fD5, eD5⟩ := f_some D5
  obtain ⟨fhv, ehv⟩ := f_some hv
  obtain ⟨fA1, eA1⟩ := f_some A1
  obtain ⟨fA2, eA2⟩ := f_some A2
  obtain ⟨fA3, eA3⟩ := f_some A3
  obtain ⟨fA4, eA4⟩ := f_some A4
  obtain ⟨fA5, eA5⟩ := f_some A5
  obtain ⟨fA6, eA6⟩ := f_some A6
  obtain ⟨fhY1, ehY1⟩ := f_some hY1
  clear hzz B0 B1 B2 B3 B4 B5 B6 B7 B8 B9 D1 D2 D3 D4 D5 hv A1 A2 A3 A4 A5 A6 hY1
  obtain ⟨t0, t1, t2, t3, t4, t5⟩ := T
  have kk : key 4737786807993761792 = 4737786807993761792 := by decide
  have kn : nan 4737786807993761792 = false := by decide
  have hng : ¬ 4737786807993761792 ≤ X := by omega
  have hz : ¬ X = 0 := by omega
  have hlt : ¬ X < 0 := by omega
  have hfi : decide (rung x = infR) = false := decide_eq_false (by omega)
  have HX := Lib.hid hx64
  clear hx64 hfin
  clear hJ
  go_enter Tryd.func17, Tryd.ntmps17
  go_wp2_with (first | (go_at_call 18; refine (isNaNM _ _).mono ?_; rintro e w' ⟨rfl, rfl⟩) | (go_at_call 19; refine (isInfM _ HX.out (by assumption) false hfi _).mono ?_; rintro e w' ⟨rfl, rfl⟩))
  go_ret
  exact ⟨rfl, rfl⟩

theorem sin_odd6n (x z zz y : Nat) (X : Int) (hk : key x = X) (hn : nan x = false) (hx64 : x < 2 ^ 64) (hfin : rung x < infR)
    (h0 : 0 < X) (h1 : X < 4737786807993761792) (v : Nat) (J : Int) (hJ0 : 0 ≤ J) (hJb : J ≤ 1073741823) (Y0 Y m1 d1 m2 d2 m3 : Nat) (hv : floatBits .mul .f64 x kQ = some v) (hJ : floatToIntVal .f64 v .u64 = some J)
    (hb1 : bits .and .u64 J 1 = 1) (hb7 : bits .and .u64 (J + 1) 7 = 6) (hY : floatOfInt .f64 J = Y0) (hY1 : floatBits .add .f64 Y0 one' = some Y)
    (hC : Cody x Y m1 d1 m2 d2 m3 z)
    (hzz : floatBits .mul .f64 z z = some zz) (hR : CR zz y) (w : World) (T : TabC w) :
    Calls Tryd.prog 17 #[.float .f64 (Op.negFloat .f64 x)] w fun e w' => e = .returned (.float .f64 y) ∧ w' = w := by
  have hcv := fun w => conv_u64 hJ w
  obtain ⟨A1, A2, A3, A4, A5, A6⟩ := hC
  obtain ⟨m0', a1', m1', a2', m2', a3', m3', a4', m4', p', hh', aa', ww', q', ⟨B0, B1, B2, B3, B4, B5, B6, B7, B8, B9⟩, ⟨D1, D2, D3, D4, D5⟩⟩ := hR
  obtain ⟨fhzz, ehzz⟩ := f_some hzz
  obtain ⟨fB0, eB0⟩ := f_some B0
  obtain ⟨fB1, eB1⟩ := f_some B1
  obtain ⟨fB2, eB2⟩ := f_some B2
  obtain ⟨fB3, eB3⟩ := f_some B3
  obtain ⟨fB4, eB4⟩ := f_some B4
  obtain ⟨fB5, eB5⟩ := f_some B5
  obtain ⟨fB6, eB6⟩ := f_some B6
  obtain ⟨fB7, eB7⟩ := f_some B7
  obtain ⟨fB8, eB8⟩ := f_some B8
  obtain ⟨fB9, eB9⟩ := f_some B9
  obtain ⟨fD1, eD1⟩ := f_some D1
  obtain ⟨fD2, eD2⟩ := f_some D2
  obtain ⟨fD3, eD3⟩ := f_some D3
  obtain ⟨fD4, eD4⟩ := f_some D4
  obtain ⟨fD5, eD5⟩ := f_some D5
  obtain ⟨fhv, ehv⟩ := f_some hv
  obtain ⟨fA1, eA1⟩ := f_some A1
  obtain ⟨fA2, eA2⟩ := f_some A2
  obtain ⟨fA3, eA3⟩ := f_some A3
  obtain ⟨fA4, eA4⟩ := f_some A4
  obtain ⟨fA5, eA5⟩ := f_some A5
  obtain ⟨fA6, eA6⟩ := f_some A6
  obtain ⟨fhY1, ehY1⟩ := f_some hY1
  clear hzz B0 B1 B2 B3 B4 B5 B6 B7 B8 B9 D1 D2 D3 D4 D5 hv A1 A2 A3 A4 A5 A6 hY1
  obtain ⟨t0, t1, t2, t3, t4, t5⟩ := T
  have kk : key 4737786807993761792 = 4737786807993761792 := by decide
  have kn : nan 4737786807993761792 = false := by decide
  have hng : ¬ 4737786807993761792 ≤ X := by omega
  have hky : key (Op.negFloat .f64 x) = -X := by rw [key_neg hx64, hk]
  have hnn : nan (Op.negFloat .f64 x) = false := by rw [nan_neg hx64]; exact hn
  have htw : Op.negFloat .f64 (Op.negFloat .f64 x) = x := negFloat_twice hx64
  have hz : ¬ -X = 0 := by omega
  have hz2 : ¬ X = 0 := by omega
  have hlt : -X < 0 := by omega
  have hlt2 : 0 < X := by omega
  have hfi : decide (rung (Op.negFloat .f64 x) = infR) = false := by rw [rung_neg hx64]; exact decide_eq_false (by omega)
  have HX := Lib.hid (negFloat_lt hx64)
  clear hx64 hfin
  clear hJ
  go_enter Tryd.func17, Tryd.ntmps17
  go_wp2_with (first | (go_at_call 18; refine (isNaNM _ _).mono ?_; rintro e w' ⟨rfl, rfl⟩) | (go_at_call 19; refine (isInfM _ HX.out (by assumption) false hfi _).mono ?_; rintro e w' ⟨rfl, rfl⟩))
  go_ret
  exact ⟨rfl, rfl⟩

theorem sin_long0p (x z zz y : Nat) (X : Int) (hk : key x = X) (hn : nan x = false) (hx64 : x < 2 ^ 64) (hfin : rung x < infR)
    (hT : 4737786807993761792 ≤ X) (Tab : World → Prop) (hL : Trig Tab x 0 z)
    (hzz : floatBits .mul .f64 z z = some zz) (hR : SR z zz y) (w : World) (T : TabS w) (T4 : Tab w) :
    Calls Tryd.prog 17 #[.float .f64 x] w fun e w' => e = .returned (.float .f64 y) ∧ ∃ n, w' = w.drewN n := by
  obtain ⟨m0', a1', m1', a2', m2', a3', m3', a4', m4', p', W', q', ⟨B0, B1, B2, B3, B4, B5, B6, B7, B8, B9⟩, ⟨D1, D2, D3⟩⟩ := hR
  obtain ⟨fhzz, ehzz⟩ := f_some hzz
  obtain ⟨fB0, eB0⟩ := f_some B0
  obtain ⟨fB1, eB1⟩ := f_some B1
  obtain ⟨fB2, eB2⟩ := f_some B2
  obtain ⟨fB3, eB3⟩ := f_some B3
  obtain ⟨fB4, eB4⟩ := f_some B4
  obtain ⟨fB5, eB5⟩ := f_some B5
  obtain ⟨fB6, eB6⟩ := f_some B6
  obtain ⟨fB7, eB7⟩ := f_some B7
  obtain ⟨fB8, eB8⟩ := f_some B8
  obtain ⟨fB9, eB9⟩ := f_some B9
  obtain ⟨fD1, eD1⟩ := f_some D1
  obtain ⟨fD2, eD2⟩ := f_some D2
  obtain ⟨fD3, eD3⟩ := f_some D3
  clear hzz B0 B1 B2 B3 B4 B5 B6 B7 B8 B9 D1 D2 D3
  obtain ⟨t0, t1, t2, t3, t4, t5⟩ := T
  have u0 : ∀ n, (w.drewN n).cell? ⟨2, 0, none⟩ = some (.float .f64 4460209587652500685) := fun _ => t0
  have u1 : ∀ n, (w.drewN n).cell? ⟨2, 1, none⟩ = some (.float .f64 13716528389658582877) := fun _ => t1
  have u2 : ∀ n, (w.drewN n).cell? ⟨2, 2, none⟩ = some (.float .f64 4523617212962785441) := fun _ => t2
  have u3 : ∀ n, (w.drewN n).cell? ⟨2, 3, none⟩ = some (.float .f64 13774824197404483331) := fun _ => t3
  have u4 : ∀ n, (w.drewN n).cell? ⟨2, 4, none⟩ = some (.float .f64 4575957461383575504) := fun _ => t4
  have u5 : ∀ n, (w.drewN n).cell? ⟨2, 5, none⟩ = some (.float .f64 13818544856648471880) := fun _ => t5
  have kk : key 4737786807993761792 = 4737786807993761792 := by decide
  have kn : nan 4737786807993761792 = false := by decide
  have hng : ¬ X < 4737786807993761792 := by omega
  have hz : ¬ X = 0 := by omega
  have hlt : ¬ X < 0 := by omega
  have hfi : decide (rung x = infR) = false := decide_eq_false (by omega)
  have HX := Lib.hid hx64
  clear hx64 hfin
  have HL := Lib.hid hL
  have H4 := Lib.hid T4
  clear hL T4
  go_enter Tryd.func17, Tryd.ntmps17
  go_wp2_with (first | (go_at_call 18; refine (isNaNM _ _).mono ?_; rintro e w' ⟨rfl, rfl⟩) | (go_at_call 19; refine (isInfM _ HX.out (by assumption) false hfi _).mono ?_; rintro e w' ⟨rfl, rfl⟩) | (go_at_call 21; refine (HL.out _ H4.out).mono ?_; rintro e w' ⟨rfl, n, rfl⟩))
  go_ret
  exact ⟨rfl, _, rfl⟩

theorem sin_long0n (x z zz y : Nat) (X : Int) (hk : key x = X) (hn : nan x = false) (hx64 : x < 2 ^ 64) (hfin : rung x < infR)
    (hT : 4737786807993761792 ≤ X) (Tab : World → Prop) (hL : Trig Tab x 0 z)
    (hzz : floatBits .mul .f64 z z = some zz) (hR : SR z zz y) (w : World) (T : TabS w) (T4 : Tab w) :
    Calls Tryd.prog 17 #[.float .f64 (Op.negFloat .f64 x)] w fun e w' => e = .returned (.float .f64 (Op.negFloat .f64 y)) ∧ ∃ n, w' = w.drewN n := by
  obtain ⟨m0', a1', m1', a2', m2', a3', m3', a4', m4', p', W', q', ⟨B0, B1, B2, B3, B4, B5, B6, B7, B8, B9⟩, ⟨D1, D2, D3⟩⟩ := hR
  obtain ⟨fhzz, ehzz⟩ := f_some hzz
  obtain ⟨fB0, eB0⟩ := f_some B0
  obtain ⟨fB1, eB1⟩ := f_some B1
  obtain ⟨fB2, eB2⟩ := f_some B2
  obtain ⟨fB3, eB3⟩ := f_some B3
  obtain ⟨fB4, eB4⟩ := f_some B4
  obtain ⟨fB5, eB5⟩ := f_some B5
  obtain ⟨fB6, eB6⟩ := f_some B6
  obtain ⟨fB7, eB7⟩ := f_some B7
  obtain ⟨fB8, eB8⟩ := f_some B8
  obtain ⟨fB9, eB9⟩ := f_some B9
  obtain ⟨fD1, eD1⟩ := f_some D1
  obtain ⟨fD2, eD2⟩ := f_some D2
  obtain ⟨fD3, eD3⟩ := f_some D3
  clear hzz B0 B1 B2 B3 B4 B5 B6 B7 B8 B9 D1 D2 D3
  obtain ⟨t0, t1, t2, t3, t4, t5⟩ := T
  have u0 : ∀ n, (w.drewN n).cell? ⟨2, 0, none⟩ = some (.float .f64 4460209587652500685) := fun _ => t0
  have u1 : ∀ n, (w.drewN n).cell? ⟨2, 1, none⟩ = some (.float .f64 13716528389658582877) := fun _ => t1
  have u2 : ∀ n, (w.drewN n).cell? ⟨2, 2, none⟩ = some (.float .f64 4523617212962785441) := fun _ => t2
  have u3 : ∀ n, (w.drewN n).cell? ⟨2, 3, none⟩ = some (.float .f64 13774824197404483331) := fun _ => t3
  have u4 : ∀ n, (w.drewN n).cell? ⟨2, 4, none⟩ = some (.float .f64 4575957461383575504) := fun _ => t4
  have u5 : ∀ n, (w.drewN n).cell? ⟨2, 5, none⟩ = some (.float .f64 13818544856648471880) := fun _ => t5
  have kk : key 4737786807993761792 = 4737786807993761792 := by decide
  have kn : nan 4737786807993761792 = false := by decide
  have hng : ¬ X < 4737786807993761792 := by omega
  have hky : key (Op.negFloat .f64 x) = -X := by rw [key_neg hx64, hk]
  have hnn : nan (Op.negFloat .f64 x) = false := by rw [nan_neg hx64]; exact hn
  have htw : Op.negFloat .f64 (Op.negFloat .f64 x) = x := negFloat_twice hx64
  have hz : ¬ -X = 0 := by omega
  have hz2 : ¬ X = 0 := by omega
  have hlt : -X < 0 := by omega
  have hlt2 : 0 < X := by omega
  have hfi : decide (rung (Op.negFloat .f64 x) = infR) = false := by rw [rung_neg hx64]; exact decide_eq_false (by omega)
  have HX := Lib.hid (negFloat_lt hx64)
  clear hx64 hfin
  have HL := Lib.hid hL
  have H4 := Lib.hid T4
  clear hL T4
  go_enter Tryd.func17, Tryd.ntmps17
  go_wp2_with (first | (go_at_call 18; refine (isNaNM _ _).mono ?_; rintro e w' ⟨rfl, rfl⟩) | (go_at_call 19; refine (isInfM _ HX.out (by assumption) false hfi _).mono ?_; rintro e w' ⟨rfl, rfl⟩) | (go_at_call 21; refine (HL.out _ H4.out).mono ?_; rintro e w' ⟨rfl, n, rfl⟩))
  go_ret
  exact ⟨rfl, _, rfl⟩

theorem sin_long2p (x z zz y : Nat) (X : Int) (hk : key x = X) (hn : nan x = false) (hx64 : x < 2 ^ 64) (hfin : rung x < infR)
    (hT : 4737786807993761792 ≤ X) (Tab : World → Prop) (hL : Trig Tab x 2 z)
    (hzz : floatBits .mul .f64 z z = some zz) (hR : CR zz y) (w : World) (T : TabC w) (T4 : Tab w) :
    Calls Tryd.prog 17 #[.float .f64 x] w fun e w' => e = .returned (.float .f64 y) ∧ ∃ n, w' = w.drewN n := by
  obtain ⟨m0', a1', m1', a2', m2', a3', m3', a4', m4', p', hh', aa', ww', q', ⟨B0, B1, B2, B3, B4, B5, B6, B7, B8, B9⟩, ⟨D1, D2, D3, D4, D5⟩⟩ := hR
  obtain ⟨fhzz, ehzz⟩ := f_some hzz
  obtain ⟨fB0, eB0⟩ := f_some B0
  obtain ⟨fB1, eB1⟩ := f_some B1
  obtain ⟨fB2, eB2⟩ := f_some B2
  obtain ⟨fB3, eB3⟩ := f_some B3
  obtain ⟨fB4, eB4⟩ := f_some B4
  obtain ⟨fB5, eB5⟩ := f_some B5
  obtain ⟨fB6, eB6⟩ := f_some B6
  obtain ⟨fB7, eB7⟩ := f_some B7
  obtain ⟨fB8, eB8⟩ := f_some B8
  obtain ⟨fB9, eB9⟩ := f_some B9
  obtain ⟨fD1, eD1⟩ := f_some D1
  obtain ⟨fD2, eD2⟩ := f_some D2
  obtain ⟨fD3, eD3⟩ := f_some D3
  obtain ⟨fD4, eD4⟩ := f_some D4
  obtain ⟨fD5, eD5⟩ := f_some D5
  clear hzz B0 B1 B2 B3 B4 B5 B6 B7 B8 B9 D1 D2 D3 D4 D5
  obtain ⟨t0, t1, t2, t3, t4, t5⟩ := T
  have u0 : ∀ n, (w.drewN n).cell? ⟨1, 0, none⟩ = some (.float .f64 13666448263388469915) := fun _ => t0
  have u1 : ∀ n, (w.drewN n).cell? ⟨1, 1, none⟩ = some (.float .f64 4477121864728985349) := fun _ => t1
  have u2 : ∀ n, (w.drewN n).cell? ⟨1, 2, none⟩ = some (.float .f64 13732177093698800582) := fun _ => t2
  have u3 : ∀ n, (w.drewN n).cell? ⟨1, 3, none⟩ = some (.float .f64 4537941361668146421) := fun _ => t3
  have u4 : ∀ n, (w.drewN n).cell? ⟨1, 4, none⟩ = some (.float .f64 13787419979223748497) := fun _ => t4
  have u5 : ∀ n, (w.drewN n).cell? ⟨1, 5, none⟩ = some (.float .f64 4586165620538955083) := fun _ => t5
  have kk : key 4737786807993761792 = 4737786807993761792 := by decide
  have kn : nan 4737786807993761792 = false := by decide
  have hng : ¬ X < 4737786807993761792 := by omega
  have hz : ¬ X = 0 := by omega
  have hlt : ¬ X < 0 := by omega
  have hfi : decide (rung x = infR) = false := decide_eq_false (by omega)
  have HX := Lib.hid hx64
  clear hx64 hfin
  have HL := Lib.hid hL
  have H4 := Lib.hid T4
  clear hL T4
  go_enter Tryd.func17, Tryd.ntmps17
  go_wp2_with (first | (go_at_call 18; refine (isNaNM _ _).mono ?_; rintro e w' ⟨rfl, rfl⟩) | (go_at_call 19; refine (isInfM _ HX.out (by assumption) false hfi _).mono ?_; rintro e w' ⟨rfl, rfl⟩) | (go_at_call 21; refine (HL.out _ H4.out).mono ?_; rintro e w' ⟨rfl, n, rfl⟩))
  go_ret
  exact ⟨rfl, _, rfl⟩

theorem sin_long2n (x z zz y : Nat) (X : Int) (hk : key x = X) (hn : nan x = false) (hx64 : x < 2 ^ 64) (hfin : rung x < infR)
    (hT : 4737786807993761792 ≤ X) (Tab : World → Prop) (hL : Trig Tab x 2 z)
    (hzz : floatBits .mul .f64 z z = some zz) (hR : CR zz y) (w : World) (T : TabC w) (T4 : Tab w) :
    Calls Tryd.prog 17 #[.float .f64 (Op.negFloat .f64 x)] w fun e w' => e = .returned (.float .f64 (Op.negFloat .f64 y)) ∧ ∃ n, w' = w.drewN n := by
  obtain ⟨m0', a1', m1', a2', m2', a3', m3', a4', m4', p', hh', aa', ww', q', ⟨B0, B1, B2, B3, B4, B5, B6, B7, B8, B9⟩, ⟨D1, D2, D3, D4, D5⟩⟩ := hR
  obtain ⟨fhzz, ehzz⟩ := f_some hzz
  obtain ⟨fB0, eB0⟩ := f_some B0
  obtain ⟨fB1, eB1⟩ := f_some B1
  obtain ⟨fB2, eB2⟩ := f_some B2
  obtain ⟨fB3, eB3⟩ := f_some B3
  obtain ⟨fB4, eB4⟩ := f_some B4
  obtain ⟨fB5, eB5⟩ := f_some B5
  obtain ⟨fB6, eB6⟩ := f_some B6
  obtain ⟨fB7, eB7⟩ := f_some B7
  obtain ⟨fB8, eB8⟩ := f_some B8
  obtain ⟨fB9, eB9⟩ := f_some B9
  obtain ⟨fD1, eD1⟩ := f_some D1
  obtain ⟨fD2, eD2⟩ := f_some D2
  obtain ⟨fD3, eD3⟩ := f_some D3
  obtain ⟨fD4, eD4⟩ := f_some D4
  obtain ⟨fD5, eD5⟩ := f_some D5
  clear hzz B0 B1 B2 B3 B4 B5 B6 B7 B8 B9 D1 D2 D3 D4 D5
  obtain ⟨t0, t1, t2, t3, t4, t5⟩ := T
  have u0 : ∀ n, (w.drewN n).cell? ⟨1, 0, none⟩ = some (.float .f64 13666448263388469915) := fun _ => t0
  have u1 : ∀ n, (w.drewN n).cell? ⟨1, 1, none⟩ = some (.float .f64 4477121864728985349) := fun _ => t1
  have u2 : ∀ n, (w.drewN n).cell? ⟨1, 2, none⟩ = some (.float .f64 13732177093698800582) := fun _ => t2
  have u3 : ∀ n, (w.drewN n).cell? ⟨1, 3, none⟩ = some (.float .f64 4537941361668146421) := fun _ => t3
  have u4 : ∀ n, (w.drewN n).cell? ⟨1, 4, none⟩ = some (.float .f64 13787419979223748497) := fun _ => t4
  have u5 : ∀ n, (w.drewN n).cell? ⟨1, 5, none⟩ = some (.float .f64 4586165620538955083) := fun _ => t5
  have kk : key 4737786807993761792 = 4737786807993761792 := by decide
  have kn : nan 4737786807993761792 = false := by decide
  have hng : ¬ X < 4737786807993761792 := by omega
  have hky : key (Op.negFloat .f64 x) = -X := by rw [key_neg hx64, hk]
  have hnn : nan (Op.negFloat .f64 x) = false := by rw [nan_neg hx64]; exact hn
  have htw : Op.negFloat .f64 (Op.negFloat .f64 x) = x := negFloat_twice hx64
  have hz : ¬ -X = 0 := by omega
  have hz2 : ¬ X = 0 := by omega
  have hlt : -X < 0 := by omega
  have hlt2 : 0 < X := by omega
  have hfi : decide (rung (Op.negFloat .f64 x) = infR) = false := by rw [rung_neg hx64]; exact decide_eq_false (by omega)
  have HX := Lib.hid (negFloat_lt hx64)
  clear hx64 hfin
  have HL := Lib.hid hL
  have H4 := Lib.hid T4
  clear hL T4
  go_enter Tryd.func17, Tryd.ntmps17
  go_wp2_with (first | (go_at_call 18; refine (isNaNM _ _).mono ?_; rintro e w' ⟨rfl, rfl⟩) | (go_at_call 19; refine (isInfM _ HX.out (by assumption) false hfi _).mono ?_; rintro e w' ⟨rfl, rfl⟩) | (go_at_call 21; refine (HL.out _ H4.out).mono ?_; rintro e w' ⟨rfl, n, rfl⟩))
  go_ret
  exact ⟨rfl, _, rfl⟩

theorem sin_long4p (x z zz y : Nat) (X : Int) (hk : key x = X) (hn : nan x = false) (hx64 : x < 2 ^ 64) (hfin : rung x < infR)
    (hT : 4737786807993761792 ≤ X) (Tab : World → Prop) (hL : Trig Tab x 4 z)
    (hzz : floatBits .mul .f64 z z = some zz) (hR : SR z zz y) (w : World) (T : TabS w) (T4 : Tab w) :
    Calls Tryd.prog 17 #[.float .f64 x] w fun e w' => e = .returned (.float .f64 (Op.negFloat .f64 y)) ∧ ∃ n, w' = w.drewN n := by
  obtain ⟨m0', a1', m1', a2', m2', a3', m3', a4', m4', p', W', q', ⟨B0, B1, B2, B3, B4, B5, B6, B7, B8, B9⟩, ⟨D1, D2, D3⟩⟩ := hR
  obtain ⟨fhzz, ehzz⟩ := f_some hzz
  obtain ⟨fB0, eB0⟩ := f_some B0
  obtain ⟨fB1, eB1⟩ := f_some B1
  obtain ⟨fB2, eB2⟩ := f_some B2
  obtain ⟨fB3, eB3⟩ := f_some B3
  obtain ⟨fB4, eB4⟩ := f_some B4
  obtain ⟨fB5, eB5⟩ := f_some B5
  obtain ⟨fB6, eB6⟩ := f_some B6
  obtain ⟨fB7, eB7⟩ := f_some B7
  obtain ⟨fB8, eB8⟩ := f_some B8
  obtain ⟨fB9, eB9⟩ := f_some B9
  obtain ⟨fD1, eD1⟩ := f_some D1
  obtain ⟨fD2, eD2⟩ := f_some D2
  obtain ⟨fD3, eD3⟩ := f_some D3
  clear hzz B0 B1 B2 B3 B4 B5 B6 B7 B8 B9 D1 D2 D3
  obtain ⟨t0, t1, t2, t3, t4, t5⟩ := T
  have u0 : ∀ n, (w.drewN n).cell? ⟨2, 0, none⟩ = some (.float .f64 4460209587652500685) := fun _ => t0
  have u1 : ∀ n, (w.drewN n).cell? ⟨2, 1, none⟩ = some (.float .f64 13716528389658582877) := fun _ => t1
  have u2 : ∀ n, (w.drewN n).cell? ⟨2, 2, none⟩ = some (.float .f64 4523617212962785441) := fun _ => t2
  have u3 : ∀ n, (w.drewN n).cell? ⟨2, 3, none⟩ = some (.float .f64 13774824197404483331) := fun _ => t3
  have u4 : ∀ n, (w.drewN n).cell? ⟨2, 4, none⟩ = some (.float .f64 4575957461383575504) := fun _ => t4
  have u5 : ∀ n, (w.drewN n).cell? ⟨2, 5, none⟩ = some (.float .f64 13818544856648471880) := fun _ => t5
  have kk : key 4737786807993761792 = 4737786807993761792 := by decide
  have kn : nan 4737786807993761792 = false := by decide
  have hng : ¬ X < 4737786807993761792 := by omega
  have hz : ¬ X = 0 := by omega
  have hlt : ¬ X < 0 := by omega
  have hfi : decide (rung x = infR) = false := decide_eq_false (by omega)
  have HX := Lib.hid hx64
  clear hx64 hfin
  have HL := Lib.hid hL
  have H4 := Lib.hid T4
  clear hL T4
  go_enter Tryd.func17, Tryd.ntmps17
  go_wp2_with (first | (go_at_call 18; refine (isNaNM _ _).mono ?_; rintro e w' ⟨rfl, rfl⟩) | (go_at_call 19; refine (isInfM _ HX.out (by assumption) false hfi _).mono ?_; rintro e w' ⟨rfl, rfl⟩) | (go_at_call 21; refine (HL.out _ H4.out).mono ?_; rintro e w' ⟨rfl, n, rfl⟩))
  go_ret
  exact ⟨rfl, _, rfl⟩

theorem sin_long4n (x z zz y : Nat) (X : Int) (hk : key x = X) (hn : nan x = false) (hx64 : x < 2 ^ 64) (hfin : rung x < infR)
    (hT : 4737786807993761792 ≤ X) (Tab : World → Prop) (hL : Trig Tab x 4 z)
    (hzz : floatBits .mul .f64 z z = some zz) (hR : SR z zz y) (w : World) (T : TabS w) (T4 : Tab w) :
    Calls Tryd.prog 17 #[.float .f64 (Op.negFloat .f64 x)] w fun e w' => e = .returned (.float .f64 y) ∧ ∃ n, w' = w.drewN n := by
  obtain ⟨m0', a1', m1', a2', m2', a3', m3', a4', m4', p', W', q', ⟨B0, B1, B2, B3, B4, B5, B6, B7, B8, B9⟩, ⟨D1, D2, D3⟩⟩ := hR
  obtain ⟨fhzz, ehzz⟩ := f_some hzz
  obtain ⟨fB0, eB0⟩ := f_some B0
  obtain ⟨fB1, eB1⟩ := f_some B1
  obtain ⟨fB2, eB2⟩ := f_some B2
  obtain ⟨fB3, eB3⟩ := f_some B3
  obtain ⟨fB4, eB4⟩ := f_some B4
  obtain ⟨fB5, eB5⟩ := f_some B5
  obtain ⟨fB6, eB6⟩ := f_some B6
  obtain ⟨fB7, eB7⟩ := f_some B7
  obtain ⟨fB8, eB8⟩ := f_some B8
  obtain ⟨fB9, eB9⟩ := f_some B9
  obtain ⟨fD1, eD1⟩ := f_some D1
  obtain ⟨fD2, eD2⟩ := f_some D2
  obtain ⟨fD3, eD3⟩ := f_some D3
  clear hzz B0 B1 B2 B3 B4 B5 B6 B7 B8 B9 D1 D2 D3
  obtain ⟨t0, t1, t2, t3, t4, t5⟩ := T
  have u0 : ∀ n, (w.drewN n).cell? ⟨2, 0, none⟩ = some (.float .f64 4460209587652500685) := fun _ => t0
  have u1 : ∀ n, (w.drewN n).cell? ⟨2, 1, none⟩ = some (.float .f64 13716528389658582877) := fun _ => t1
  have u2 : ∀ n, (w.drewN n).cell? ⟨2, 2, none⟩ = some (.float .f64 4523617212962785441) := fun _ => t2
  have u3 : ∀ n, (w.drewN n).cell? ⟨2, 3, none⟩ = some (.float .f64 13774824197404483331) := fun _ => t3
  have u4 : ∀ n, (w.drewN n).cell? ⟨2, 4, none⟩ = some (.float .f64 4575957461383575504) := fun _ => t4
  have u5 : ∀ n, (w.drewN n).cell? ⟨2, 5, none⟩ = some (.float .f64 13818544856648471880) := fun _ => t5
  have kk : key 4737786807993761792 = 4737786807993761792 := by decide
  have kn : nan 4737786807993761792 = false := by decide
  have hng : ¬ X < 4737786807993761792 := by omega
  have hky : key (Op.negFloat .f64 x) = -X := by rw [key_neg hx64, hk]
  have hnn : nan (Op.negFloat .f64 x) = false := by rw [nan_neg hx64]; exact hn
  have htw : Op.negFloat .f64 (Op.negFloat .f64 x) = x := negFloat_twice hx64
  have hz : ¬ -X = 0 := by omega
  have hz2 : ¬ X = 0 := by omega
  have hlt : -X < 0 := by omega
  have hlt2 : 0 < X := by omega
  have hfi : decide (rung (Op.negFloat .f64 x) = infR) = false := by rw [rung_neg hx64]; exact decide_eq_false (by omega)
  have HX := Lib.hid (negFloat_lt hx64)
  clear hx64 hfin
  have HL := Lib.hid hL
  have H4 := Lib.hid T4
  clear hL T4
  go_enter Tryd.func17, Tryd.ntmps17
  go_wp2_with (first | (go_at_call 18; refine (isNaNM _ _).mono ?_; rintro e w' ⟨rfl, rfl⟩) | (go_at_call 19; refine (isInfM _ HX.out (by assumption) false hfi _).mono ?_; rintro e w' ⟨rfl, rfl⟩) | (go_at_call 21; refine (HL.out _ H4.out).mono ?_; rintro e w' ⟨rfl, n, rfl⟩))
  go_ret
  exact ⟨rfl, _, rfl⟩

theorem sin_long6p (x z zz y : Nat) (X : Int) (hk : key x = X) (hn : nan x = false) (hx64 : x < 2 ^ 64) (hfin : rung x < infR)
    (hT : 4737786807993761792 ≤ X) (Tab : World → Prop) (hL : Trig Tab x 6 z)
    (hzz : floatBits .mul .f64 z z = some zz) (hR : CR zz y) (w : World) (T : TabC w) (T4 : Tab w) :
    Calls Tryd.prog 17 #[.float .f64 x] w fun e w' => e = .returned (.float .f64 (Op.negFloat .f64 y)) ∧ ∃ n, w' = w.drewN n := by
  obtain ⟨m0', a1', m1', a2', m2', a3', m3', a4', m4', p', hh', aa', ww', q', ⟨B0, B1, B2, B3, B4, B5, B6, B7, B8, B9⟩, ⟨D1, D2, D3, D4, D5⟩⟩ := hR
  obtain ⟨fhzz, ehzz⟩ := f_some hzz
  obtain ⟨fB0, eB0⟩ := f_some B0
  obtain ⟨fB1, eB1⟩ := f_some B1
  obtain ⟨fB2, eB2⟩ := f_some B2
  obtain ⟨fB3, eB3⟩ := f_some B3
  obtain ⟨fB4, eB4⟩ := f_some B4
  obtain ⟨fB5, eB5⟩ := f_some B5
  obtain ⟨fB6, eB6⟩ := f_some B6
  obtain ⟨fB7, eB7⟩ := f_some B7
  obtain ⟨fB8, eB8⟩ := f_some B8
  obtain ⟨fB9, eB9⟩ := f_some B9
  obtain ⟨fD1, eD1⟩ := f_some D1
  obtain ⟨fD2, eD2⟩ := f_some D2
  obtain ⟨fD3, eD3⟩ := f_some D3
  obtain ⟨fD4, eD4⟩ := f_some D4
  obtain ⟨fD5, eD5⟩ := f_some D5
  clear hzz B0 B1 B2 B3 B4 B5 B6 B7 B8 B9 D1 D2 D3 D4 D5
  obtain ⟨t0, t1, t2, t3, t4, t5⟩ := T
  have u0 : ∀ n, (w.drewN n).cell? ⟨1, 0, none⟩ = some (.float .f64 13666448263388469915) := fun _ => t0
  have u1 : ∀ n, (w.drewN n).cell? ⟨1, 1, none⟩ = some (.float .f64 4477121864728985349) := fun _ => t1
  have u2 : ∀ n, (w.drewN n).cell? ⟨1, 2, none⟩ = some (.float .f64 13732177093698800582) := fun _ => t2
  have u3 : ∀ n, (w.drewN n).cell? ⟨1, 3, none⟩ = some (.float .f64 4537941361668146421) := fun _ => t3
  have u4 : ∀ n, (w.drewN n).cell? ⟨1, 4, none⟩ = some (.float .f64 13787419979223748497) := fun _ => t4
  have u5 : ∀ n, (w.drewN n).cell? ⟨1, 5, none⟩ = some (.float .f64 4586165620538955083) := fun _ => t5
  have kk : key 4737786807993761792 = 4737786807993761792 := by decide
  have kn : nan 4737786807993761792 = false := by decide
  have hng : ¬ X < 4737786807993761792 := by omega
  have hz : ¬ X = 0 := by omega
  have hlt : ¬ X < 0 := by omega
  have hfi : decide (rung x = infR) = false := decide_eq_false (by omega)
  have HX := Lib.hid hx64
  clear hx64 hfin
  have HL := Lib.hid hL
  have H4 := Lib.hid T4
  clear hL T4
  go_enter Tryd.func17, Tryd.ntmps17
  go_wp2_with (first | (go_at_call 18; refine (isNaNM _ _).mono ?_; rintro e w' ⟨rfl, rfl⟩) | (go_at_call 19; refine (isInfM _ HX.out (by assumption) false hfi _).mono ?_; rintro e w' ⟨rfl, rfl⟩) | (go_at_call 21; refine (HL.out _ H4.out).mono ?_; rintro e w' ⟨rfl, n, rfl⟩))
  go_ret
  exact ⟨rfl, _, rfl⟩

theorem sin_long6n (x z zz y : Nat) (X : Int) (hk : key x = X) (hn : nan x = false) (hx64 : x < 2 ^ 64) (hfin : rung x < infR)
    (hT : 4737786807993761792 ≤ X) (Tab : World → Prop) (hL : Trig Tab x 6 z)
    (hzz : floatBits .mul .f64 z z = some zz) (hR : CR zz y) (w : World) (T : TabC w) (T4 : Tab w) :
    Calls Tryd.prog 17 #[.float .f64 (Op.negFloat .f64 x)] w fun e w' => e = .returned (.float .f64 y) ∧ ∃ n, w' = w.drewN n := by
  obtain ⟨m0', a1', m1', a2', m2', a3', m3', a4', m4', p', hh', aa', ww', q', ⟨B0, B1, B2, B3, B4, B5, B6, B7, B8, B9⟩, ⟨D1, D2, D3, D4, D5⟩⟩ := hR
  obtain ⟨fhzz, ehzz⟩ := f_some hzz
  obtain ⟨fB0, eB0⟩ := f_some B0
  obtain ⟨fB1, eB1⟩ := f_some B1
  obtain ⟨fB2, eB2⟩ := f_some B2
  obtain ⟨fB3, eB3⟩ := f_some B3
  obtain ⟨fB4, eB4⟩ := f_some B4
  obtain ⟨fB5, eB5⟩ := f_some B5
  obtain ⟨fB6, eB6⟩ := f_some B6
  obtain ⟨fB7, eB7⟩ := f_some B7
  obtain ⟨fB8, eB8⟩ := f_some B8
  obtain ⟨fB9, eB9⟩ := f_some B9
  obtain ⟨fD1, eD1⟩ := f_some D1
  obtain ⟨fD2, eD2⟩ := f_some D2
  obtain ⟨fD3, eD3⟩ := f_some D3
  obtain ⟨fD4, eD4⟩ := f_some D4
  obtain ⟨fD5, eD5⟩ := f_some D5
  clear hzz B0 B1 B2 B3 B4 B5 B6 B7 B8 B9 D1 D2 D3 D4 D5
  obtain ⟨t0, t1, t2, t3, t4, t5⟩ := T
  have u0 : ∀ n, (w.drewN n).cell? ⟨1, 0, none⟩ = some (.float .f64 13666448263388469915) := fun _ => t0
  have u1 : ∀ n, (w.drewN n).cell? ⟨1, 1, none⟩ = some (.float .f64 4477121864728985349) := fun _ => t1
  have u2 : ∀ n, (w.drewN n).cell? ⟨1, 2, none⟩ = some (.float .f64 13732177093698800582) := fun _ => t2
  have u3 : ∀ n, (w.drewN n).cell? ⟨1, 3, none⟩ = some (.float .f64 4537941361668146421) := fun _ => t3
  have u4 : ∀ n, (w.drewN n).cell? ⟨1, 4, none⟩ = some (.float .f64 13787419979223748497) := fun _ => t4
  have u5 : ∀ n, (w.drewN n).cell? ⟨1, 5, none⟩ = some (.float .f64 4586165620538955083) := fun _ => t5
  have kk : key 4737786807993761792 = 4737786807993761792 := by decide
  have kn : nan 4737786807993761792 = false := by decide
  have hng : ¬ X < 4737786807993761792 := by omega
  have hky : key (Op.negFloat .f64 x) = -X := by rw [key_neg hx64, hk]
  have hnn : nan (Op.negFloat .f64 x) = false := by rw [nan_neg hx64]; exact hn
  have htw : Op.negFloat .f64 (Op.negFloat .f64 x) = x := negFloat_twice hx64
  have hz : ¬ -X = 0 := by omega
  have hz2 : ¬ X = 0 := by omega
  have hlt : -X < 0 := by omega
  have hlt2 : 0 < X := by omega
  have hfi : decide (rung (Op.negFloat .f64 x) = infR) = false := by rw [rung_neg hx64]; exact decide_eq_false (by omega)
  have HX := Lib.hid (negFloat_lt hx64)
  clear hx64 hfin
  have HL := Lib.hid hL
  have H4 := Lib.hid T4
  clear hL T4
  go_enter Tryd.func17, Tryd.ntmps17
  go_wp2_with (first | (go_at_call 18; refine (isNaNM _ _).mono ?_; rintro e w' ⟨rfl, rfl⟩) | (go_at_call 19; refine (isInfM _ HX.out (by assumption) false hfi _).mono ?_; rintro e w' ⟨rfl, rfl⟩) | (go_at_call 21; refine (HL.out _ H4.out).mono ?_; rintro e w' ⟨rfl, n, rfl⟩))
  go_ret
  exact ⟨rfl, _, rfl⟩

end Go.Proofs.YtgaodnflifkaiaaDoor

