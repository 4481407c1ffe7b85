/- The walk of the law FnCanPrintAgreesWithQuoteForJSON. -/
import Derived.Test.YtdpacomlnipfgaaLawS
namespace Go.Proofs.Ytdpacomlnipfgaa
open Go.RowKit
set_option linter.unusedVariables false
set_option linter.unusedSimpArgs false

theorem or32 (x y : Int) (i : Nat) (hx₀ : 0 ≤ x) (hx : x % 2 ^ i = 0) (hx₁ : x < 2 ^ 31) (hy₀ : 0 ≤ y) (hy : y < 2 ^ i) (hy₁ : y < 2 ^ 31) : bits .or .i32 x y = x + y :=
  bits_join .i32 31 (by decide) wraps_i32 i x y hx₀ hx hx₁ hy₀ hy hy₁
theorem and63 (x : Nat) (h : x < 2147483648) : bits .and .i32 (x : Int) 63 = ((x % 64 : Nat) : Int) := by
  have := bits_mask .i32 31 (by decide) wraps_i32 6 (by decide) (x : Int) (by omega) (by omega)
  simpa using this
theorem ofNat_toNat (n : Nat) (h : n < 256) : ((UInt8.ofNat n).toNat : Int) = (n : Int) := by simp [Nat.mod_eq_of_lt h]
theorem tn (n : Nat) (h : n < 256) : (UInt8.ofNat n).toNat = n := by simp [Nat.mod_eq_of_lt h]
theorem encAt (c k : Nat) (b : UInt8) (h : (enc c)[k]? = some b) : bt ⟨(enc c).toArray⟩ k = b.toNat := by
  unfold bt
  simp only [List.getD_eq_getElem?_getD, h]
  rfl
theorem Dec.of_enc (c : Nat) (h : c ≤ 1114111) (hs : c < 55296 ∨ 57343 < c) : Dec ⟨(enc c).toArray⟩ 0 c (enc c).length := by
  have hz : (⟨(enc c).toArray⟩ : ByteArray).size = (enc c).length := by simp [ByteArray.size]
  unfold Dec
  rw [hz]
  simp only [Nat.zero_add]
  by_cases h1 : c < 128
  · left
    have e : enc c = [UInt8.ofNat c] := by unfold enc; rw [if_pos h1]
    rw [encAt c 0 (UInt8.ofNat c) (by rw [e]; rfl)]
    rw [tn c (by omega), e]
    simp only [List.length_cons, List.length_nil, true_and, and_true]
    omega
  · by_cases h2 : c < 2048
    · right; left
      have e : enc c = [UInt8.ofNat (192 + c / 64), UInt8.ofNat (128 + c % 64)] := by unfold enc; rw [if_neg h1, if_pos h2]
      rw [encAt c 0 _ (by rw [e]; rfl), encAt c 1 _ (by rw [e]; rfl)]
      rw [tn (192 + c / 64) (by omega), tn (128 + c % 64) (by omega), e]
      simp only [List.length_cons, List.length_nil, true_and, and_true]
      omega
    · by_cases h3 : c < 65536
      · right; right; left
        have e : enc c = [UInt8.ofNat (224 + c / 4096), UInt8.ofNat (128 + c / 64 % 64), UInt8.ofNat (128 + c % 64)] := by unfold enc; rw [if_neg h1, if_neg h2, if_pos h3]
        rw [encAt c 0 _ (by rw [e]; rfl), encAt c 1 _ (by rw [e]; rfl), encAt c 2 _ (by rw [e]; rfl)]
        rw [tn (224 + c / 4096) (by omega), tn (128 + c / 64 % 64) (by omega), tn (128 + c % 64) (by omega), e]
        simp only [List.length_cons, List.length_nil, true_and, and_true]
        omega
      · right; right; right
        have e : enc c = [UInt8.ofNat (240 + c / 262144), UInt8.ofNat (128 + c / 4096 % 64), UInt8.ofNat (128 + c / 64 % 64), UInt8.ofNat (128 + c % 64)] := by unfold enc; rw [if_neg h1, if_neg h2, if_neg h3]
        rw [encAt c 0 _ (by rw [e]; rfl), encAt c 1 _ (by rw [e]; rfl), encAt c 2 _ (by rw [e]; rfl), encAt c 3 _ (by rw [e]; rfl)]
        rw [tn (240 + c / 262144) (by omega), tn (128 + c / 4096 % 64) (by omega), tn (128 + c / 64 % 64) (by omega), tn (128 + c % 64) (by omega), e]
        simp only [List.length_cons, List.length_nil, true_and, and_true]
        omega
theorem chain_enc (c : Nat) (h : c ≤ 1114111) (hs : c < 55296 ∨ 57343 < c) : Chain ⟨(enc c).toArray⟩ 0 [c] := by
  refine Chain.cons (Dec.of_enc c h hs) ?_
  have hz : (⟨(enc c).toArray⟩ : ByteArray).size = (enc c).length := by simp [ByteArray.size]
  rw [Nat.zero_add, ← hz]
  exact Chain.nil
theorem esc_ne (a : Bool) (c : Nat) (hp : plain a c = false) : (esc a 34 c).length ≠ (enc c).length := by
  have he := enc_len c
  unfold esc
  rw [if_neg (by rw [hp]; simp)]
  repeat' split
  all_goals (simp only [List.length_cons, List.length_nil, List.length_append, u4_len]; omega)
theorem esc_eq (a : Bool) (c : Nat) (hp : plain a c = true) : esc a 34 c = enc c := by unfold esc; rw [if_pos hp]
theorem mk4 : ∀ w, (Instr.makeSlice 23 (.int .i64 0) (.int .i64 4)).run Try.prog w = .ok (.slice (some ⟨w.heap.size, 0, none⟩) 0 4) (w.alloc (.cells #[.int .u8 0, .int .u8 0, .int .u8 0, .int .u8 0] 5)) := fun _ => by kernel_rfl
def Made (L : List UInt8) (B : Nat) (w : World) (e : Ending) (w' : World) : Prop := ∃ v, e = .returned v ∧ w'.ownsRow B 5 1 v L.length (bv L) ∧ Below B w w'

set_option maxRecDepth 100000 in
set_option maxHeartbeats 1000000 in
theorem app1 (B c : Nat) (v : Value) (w : World) (h : c < 128) (hc : c ≤ 1114111) (hown : w.ownsRow B 5 1 v 0 []) (hB : B ≤ w.heap.size) : Calls Try.prog 7 #[v, .int .i32 (c : Int)] w (Made (enc c) B w) := by
  obtain ⟨i0, hi, hz0, hz1, hz2⟩ := info_parts Try.info5
  have HI := Lib.hid hi
  have HZ0 := Lib.hid hz0
  have HZ1 := Lib.hid hz1
  have HZ2 := Lib.hid hz2
  have HOWN := Lib.hid hown
  clear hi hz0 hz1 hz2 hown
  have HV : Hid (bv (enc c) = [.int .u8 ((c : Int))]) := Lib.hid (by unfold enc; rw [if_pos h]; simp only [bv, List.map_cons, List.map_nil]; rw [ofNat_toNat _ (by omega)]; try rfl)
  have HLN : Hid ((enc c).length = 0 + 1) := Lib.hid (by unfold enc; rw [if_pos h]; rfl)
  go_enter Try.func7, Try.ntmps7
  go_wp2_with (at_builtin; refine wpList_append_own _ rfl (.tmp 7) (.tmp 10) 23 rfl B 5 i0 (.int .u8 0) 1 1 Try.underlying23 HI.out HZ0.out HZ1.out HZ2.out rfl (by decide) _ _ _ rfl (HOWN.out.alloc _) ⟨w.heap.size, 0, none⟩ 1 1 [.int .u8 ((c : Int))] rfl rfl (cells_new w #[.int .u8 ((c : Int))] 5) (by simp [Value.oneCell']) (by unfold maxLen; omega) (by omega) (by simp; omega) ?_)
  intro v2 w2 hown2 hgr2 _
  have HO2 : Hid (w2.ownsRow B 5 1 v2 (enc c).length (bv (enc c))) := Lib.hid (by rw [HV.out, HLN.out]; exact hown2)
  have HB2 : Hid (Below B w w2) := Lib.hid (((Below.refl B w).alloc hB _).grown hgr2 (by simp; omega) (fun k hk => (HOWN.out.lt k hk).1))
  clear hown2 hgr2
  go_wp2_with fail
  go_ret
  exact ⟨v2, rfl, HO2.out, HB2.out⟩

set_option maxRecDepth 100000 in
set_option maxHeartbeats 1000000 in
theorem app2 (B c : Nat) (v : Value) (w : World) (h : 128 ≤ c) (h2 : c < 2048) (hc : c ≤ 1114111) (hown : w.ownsRow B 5 1 v 0 []) (hB : B ≤ w.heap.size) : Calls Try.prog 7 #[v, .int .i32 (c : Int)] w (Made (enc c) B w) := by
  obtain ⟨i0, hi, hz0, hz1, hz2⟩ := info_parts Try.info5
  have HI := Lib.hid hi
  have HZ0 := Lib.hid hz0
  have HZ1 := Lib.hid hz1
  have HZ2 := Lib.hid hz2
  have HOWN := Lib.hid hown
  clear hi hz0 hz1 hz2 hown
  obtain ⟨x1, hx1, gx1, rx1⟩ : ∃ x : Nat, bits .and .i32 ((c : Int)) 63 = (x : Int) ∧ x < 64 ∧ Hid (c % 64 = x) := ⟨c % 64, and63 (c) (by omega), by omega, Lib.hid rfl⟩
  obtain ⟨y, hy, gy, ry⟩ : ∃ y : Nat, (c : Int) / 64 = (y : Int) ∧ y < 32 ∧ Hid (c / 64 = y) := ⟨c / 64, by omega, by omega, Lib.hid rfl⟩
  have o1 : bits .or .i32 192 (y : Int) = 192 + (y : Int) := or32 _ _ 5 (by omega) (by omega) (by omega) (by omega) (by omega) (by omega)
  have o2 : bits .or .i32 128 (x1 : Int) = 128 + (x1 : Int) := or32 _ _ 6 (by omega) (by omega) (by omega) (by omega) (by omega) (by omega)
  have HV : Hid (bv (enc c) = [.int .u8 (192 + (y : Int)), .int .u8 (128 + (x1 : Int))]) := Lib.hid (by unfold enc; rw [if_neg (by omega), if_pos h2, ry.out, rx1.out]; simp only [bv, List.map_cons, List.map_nil]; rw [ofNat_toNat _ (by omega), ofNat_toNat _ (by omega)]; try rfl)
  have HLN : Hid ((enc c).length = 0 + 2) := Lib.hid (by unfold enc; rw [if_neg (by omega), if_pos h2, ry.out, rx1.out]; rfl)
  go_enter Try.func7, Try.ntmps7
  go_wp2_with (at_builtin; refine wpList_append_own _ rfl (.tmp 14) (.tmp 23) 23 rfl B 5 i0 (.int .u8 0) 1 1 Try.underlying23 HI.out HZ0.out HZ1.out HZ2.out rfl (by decide) _ _ _ rfl (HOWN.out.alloc _) ⟨w.heap.size, 0, none⟩ 2 2 [.int .u8 (192 + (y : Int)), .int .u8 (128 + (x1 : Int))] rfl rfl (cells_new w #[.int .u8 (192 + (y : Int)), .int .u8 (128 + (x1 : Int))] 5) (by simp [Value.oneCell']) (by unfold maxLen; omega) (by omega) (by simp; omega) ?_)
  intro v2 w2 hown2 hgr2 _
  have HO2 : Hid (w2.ownsRow B 5 1 v2 (enc c).length (bv (enc c))) := Lib.hid (by rw [HV.out, HLN.out]; exact hown2)
  have HB2 : Hid (Below B w w2) := Lib.hid (((Below.refl B w).alloc hB _).grown hgr2 (by simp; omega) (fun k hk => (HOWN.out.lt k hk).1))
  clear hown2 hgr2
  go_wp2_with fail
  go_ret
  exact ⟨v2, rfl, HO2.out, HB2.out⟩

set_option maxRecDepth 100000 in
set_option maxHeartbeats 1000000 in
theorem app3 (B c : Nat) (v : Value) (w : World) (h : 2048 ≤ c) (h2 : c ≤ 65535) (hc : c ≤ 1114111) (hown : w.ownsRow B 5 1 v 0 []) (hB : B ≤ w.heap.size) : Calls Try.prog 7 #[v, .int .i32 (c : Int)] w (Made (enc c) B w) := by
  obtain ⟨i0, hi, hz0, hz1, hz2⟩ := info_parts Try.info5
  have HI := Lib.hid hi
  have HZ0 := Lib.hid hz0
  have HZ1 := Lib.hid hz1
  have HZ2 := Lib.hid hz2
  have HOWN := Lib.hid hown
  clear hi hz0 hz1 hz2 hown
  obtain ⟨x1, hx1, gx1, rx1⟩ : ∃ x : Nat, bits .and .i32 ((c : Int)) 63 = (x : Int) ∧ x < 64 ∧ Hid (c % 64 = x) := ⟨c % 64, and63 (c) (by omega), by omega, Lib.hid rfl⟩
  obtain ⟨x2, hx2, gx2, rx2⟩ : ∃ x : Nat, bits .and .i32 ((c : Int) / 64) 63 = (x : Int) ∧ x < 64 ∧ Hid (c / 64 % 64 = x) := ⟨c / 64 % 64, and63 (c / 64) (by omega), by omega, Lib.hid rfl⟩
  obtain ⟨y, hy, gy, ry⟩ : ∃ y : Nat, (c : Int) / 4096 = (y : Int) ∧ y < 16 ∧ Hid (c / 4096 = y) := ⟨c / 4096, by omega, by omega, Lib.hid rfl⟩
  have o1 : bits .or .i32 224 (y : Int) = 224 + (y : Int) := or32 _ _ 4 (by omega) (by omega) (by omega) (by omega) (by omega) (by omega)
  have o2 : bits .or .i32 128 (x1 : Int) = 128 + (x1 : Int) := or32 _ _ 6 (by omega) (by omega) (by omega) (by omega) (by omega) (by omega)
  have o3 : bits .or .i32 128 (x2 : Int) = 128 + (x2 : Int) := or32 _ _ 6 (by omega) (by omega) (by omega) (by omega) (by omega) (by omega)
  have HV : Hid (bv (enc c) = [.int .u8 (224 + (y : Int)), .int .u8 (128 + (x2 : Int)), .int .u8 (128 + (x1 : Int))]) := Lib.hid (by unfold enc; rw [if_neg (by omega), if_neg (by omega), if_pos (by omega), ry.out, rx2.out, rx1.out]; simp only [bv, List.map_cons, List.map_nil]; rw [ofNat_toNat _ (by omega), ofNat_toNat _ (by omega), ofNat_toNat _ (by omega)]; try rfl)
  have HLN : Hid ((enc c).length = 0 + 3) := Lib.hid (by unfold enc; rw [if_neg (by omega), if_neg (by omega), if_pos (by omega), ry.out, rx2.out, rx1.out]; rfl)
  have hI1 : (2048 : Int) ≤ (c : Int) := by omega
  have hI2 : (c : Int) < 65536 := by omega
  clear h h2 hc
  have hI0 : (0 : Int) ≤ (c : Int) := by omega
  generalize (c : Int) = z at *
  go_enter Try.func7, Try.ntmps7
  go_wp2_with (at_builtin; refine wpList_append_own _ rfl (.tmp 27) (.tmp 41) 23 rfl B 5 i0 (.int .u8 0) 1 1 Try.underlying23 HI.out HZ0.out HZ1.out HZ2.out rfl (by decide) _ _ _ rfl (HOWN.out.alloc _) ⟨w.heap.size, 0, none⟩ 3 3 [.int .u8 (224 + (y : Int)), .int .u8 (128 + (x2 : Int)), .int .u8 (128 + (x1 : Int))] rfl rfl (cells_new w #[.int .u8 (224 + (y : Int)), .int .u8 (128 + (x2 : Int)), .int .u8 (128 + (x1 : Int))] 5) (by simp [Value.oneCell']) (by unfold maxLen; omega) (by omega) (by simp; omega) ?_)
  intro v2 w2 hown2 hgr2 _
  have HO2 : Hid (w2.ownsRow B 5 1 v2 (enc c).length (bv (enc c))) := Lib.hid (by rw [HV.out, HLN.out]; exact hown2)
  have HB2 : Hid (Below B w w2) := Lib.hid (((Below.refl B w).alloc hB _).grown hgr2 (by simp; omega) (fun k hk => (HOWN.out.lt k hk).1))
  clear hown2 hgr2
  go_wp2_with fail
  go_ret
  exact ⟨v2, rfl, HO2.out, HB2.out⟩

set_option maxRecDepth 100000 in
set_option maxHeartbeats 1000000 in
theorem app4 (B c : Nat) (v : Value) (w : World) (h : ¬ c ≤ 65535) (hc : c ≤ 1114111) (hown : w.ownsRow B 5 1 v 0 []) (hB : B ≤ w.heap.size) : Calls Try.prog 7 #[v, .int .i32 (c : Int)] w (Made (enc c) B w) := by
  obtain ⟨i0, hi, hz0, hz1, hz2⟩ := info_parts Try.info5
  have HI := Lib.hid hi
  have HZ0 := Lib.hid hz0
  have HZ1 := Lib.hid hz1
  have HZ2 := Lib.hid hz2
  have HOWN := Lib.hid hown
  clear hi hz0 hz1 hz2 hown
  obtain ⟨x1, hx1, gx1, rx1⟩ : ∃ x : Nat, bits .and .i32 ((c : Int)) 63 = (x : Int) ∧ x < 64 ∧ Hid (c % 64 = x) := ⟨c % 64, and63 (c) (by omega), by omega, Lib.hid rfl⟩
  obtain ⟨x2, hx2, gx2, rx2⟩ : ∃ x : Nat, bits .and .i32 ((c : Int) / 64) 63 = (x : Int) ∧ x < 64 ∧ Hid (c / 64 % 64 = x) := ⟨c / 64 % 64, and63 (c / 64) (by omega), by omega, Lib.hid rfl⟩
  obtain ⟨x3, hx3, gx3, rx3⟩ : ∃ x : Nat, bits .and .i32 ((c : Int) / 4096) 63 = (x : Int) ∧ x < 64 ∧ Hid (c / 4096 % 64 = x) := ⟨c / 4096 % 64, and63 (c / 4096) (by omega), by omega, Lib.hid rfl⟩
  obtain ⟨y, hy, gy, ry⟩ : ∃ y : Nat, (c : Int) / 262144 = (y : Int) ∧ y < 8 ∧ Hid (c / 262144 = y) := ⟨c / 262144, by omega, by omega, Lib.hid rfl⟩
  have o1 : bits .or .i32 240 (y : Int) = 240 + (y : Int) := or32 _ _ 3 (by omega) (by omega) (by omega) (by omega) (by omega) (by omega)
  have o2 : bits .or .i32 128 (x1 : Int) = 128 + (x1 : Int) := or32 _ _ 6 (by omega) (by omega) (by omega) (by omega) (by omega) (by omega)
  have o3 : bits .or .i32 128 (x2 : Int) = 128 + (x2 : Int) := or32 _ _ 6 (by omega) (by omega) (by omega) (by omega) (by omega) (by omega)
  have o4 : bits .or .i32 128 (x3 : Int) = 128 + (x3 : Int) := or32 _ _ 6 (by omega) (by omega) (by omega) (by omega) (by omega) (by omega)
  have HV : Hid (bv (enc c) = [.int .u8 (240 + (y : Int)), .int .u8 (128 + (x3 : Int)), .int .u8 (128 + (x2 : Int)), .int .u8 (128 + (x1 : Int))]) := Lib.hid (by unfold enc; rw [if_neg (by omega), if_neg (by omega), if_neg (by omega), ry.out, rx3.out, rx2.out, rx1.out]; simp only [bv, List.map_cons, List.map_nil]; rw [ofNat_toNat _ (by omega), ofNat_toNat _ (by omega), ofNat_toNat _ (by omega), ofNat_toNat _ (by omega)]; try rfl)
  have HLN : Hid ((enc c).length = 0 + 4) := Lib.hid (by unfold enc; rw [if_neg (by omega), if_neg (by omega), if_neg (by omega), ry.out, rx3.out, rx2.out, rx1.out]; rfl)
  have hI2 : (65536 : Int) ≤ (c : Int) := by omega
  have hI3 : (c : Int) ≤ 1114111 := by omega
  clear h hc
  have hI0 : (0 : Int) ≤ (c : Int) := by omega
  generalize (c : Int) = z at *
  go_enter Try.func7, Try.ntmps7
  go_wp2_with (at_builtin; refine wpList_append_own _ rfl (.tmp 43) (.tmp 62) 23 rfl B 5 i0 (.int .u8 0) 1 1 Try.underlying23 HI.out HZ0.out HZ1.out HZ2.out rfl (by decide) _ _ _ rfl (HOWN.out.alloc _) ⟨w.heap.size, 0, none⟩ 4 4 [.int .u8 (240 + (y : Int)), .int .u8 (128 + (x3 : Int)), .int .u8 (128 + (x2 : Int)), .int .u8 (128 + (x1 : Int))] rfl rfl (cells_new w #[.int .u8 (240 + (y : Int)), .int .u8 (128 + (x3 : Int)), .int .u8 (128 + (x2 : Int)), .int .u8 (128 + (x1 : Int))] 5) (by simp [Value.oneCell']) (by unfold maxLen; omega) (by omega) (by simp; omega) ?_)
  intro v2 w2 hown2 hgr2 _
  have HO2 : Hid (w2.ownsRow B 5 1 v2 (enc c).length (bv (enc c))) := Lib.hid (by rw [HV.out, HLN.out]; exact hown2)
  have HB2 : Hid (Below B w w2) := Lib.hid (((Below.refl B w).alloc hB _).grown hgr2 (by simp; omega) (fun k hk => (HOWN.out.lt k hk).1))
  clear hown2 hgr2
  go_wp2_with fail
  go_ret
  exact ⟨v2, rfl, HO2.out, HB2.out⟩

theorem app (B c : Nat) (v : Value) (w : World) (hc : c ≤ 1114111) (hown : w.ownsRow B 5 1 v 0 []) (hB : B ≤ w.heap.size) : Calls Try.prog 7 #[v, .int .i32 (c : Int)] w (Made (enc c) B w) := by
  by_cases h1 : c < 128
  · exact app1 B c v w h1 hc hown hB
  · by_cases h2 : c < 2048
    · exact app2 B c v w (by omega) h2 hc hown hB
    · by_cases h3 : c < 65536
      · exact app3 B c v w (by omega) (by omega) hc hown hB
      · exact app4 B c v w (by omega) hc hown hB
theorem str_enc (c : Nat) : strOfNums ((List.range (enc c).length).map fun p => (((enc c).getD p 0).toNat : Int)) = ⟨(enc c).toArray⟩ := by
  unfold strOfNums
  congr 2
  rw [List.map_map]
  refine List.ext_getElem (by simp) fun k h1 h2 => ?_
  simp only [List.getElem_map, List.getElem_range, Function.comp]
  rw [getD_in _ h2]
  simp

theorem zzcan_is (c : Nat) (a v : Bool) (w : World) (h : plain a c = v) : Calls Try.prog 6 #[.int .i32 (c : Int), .bool a] w fun e w' => e = .returned (.bool v) ∧ w = w' := by
  rw [← h]; exact zzcan_any c a w
set_option maxRecDepth 100000 in
set_option maxHeartbeats 4000000 in
theorem lawC (c : Nat) (a : Bool) (w : World) (hc : c ≤ 1114111) (hs : c < 55296 ∨ 57343 < c) : Calls Try.prog 4 #[.int .i32 (c : Int), .bool a] w fun e w' => e = .returned (.bool true) ∧ Below w.heap.size w w' := by
  have hq : decide ((c : Int) < 0) = false := by simp
  have hmk := mk4
  obtain ⟨L, hL⟩ : ∃ L, L = enc c := ⟨_, rfl⟩
  have HLE := Lib.hid hL
  have hel := enc_len c
  have hL1 : 1 ≤ L.length := by rw [hL]; exact hel.1
  have hL4 : L.length ≤ 4 := by rw [hL]; exact hel.2.1
  have HCH : Hid (Chain ⟨L.toArray⟩ 0 [c]) := Lib.hid (by rw [hL]; exact chain_enc c hc hs)
  have HTS : Hid ((⟨L.toArray⟩ : ByteArray).size = L.length) := Lib.hid (by simp [ByteArray.size])
  obtain ⟨n, hn⟩ : ∃ n, n = L.length := ⟨_, rfl⟩
  rw [← hn] at hL1 hL4
  have HN := Lib.hid hn
  clear hL hel hn
  go_enter Try.func4, Try.ntmps4
  rcases hs with hs | hs
  all_goals
    go_wp2_with fail
    refine (app w.heap.size c _ _ hc ((World.ownsRow_made w _ 4 (Nat.le_refl _) (by decide) rfl)) (by simp)).mono ?_
    rintro e w1 ⟨v1, rfl, ho1, hb1⟩
    rw [← HLE.out, ← HN.out] at ho1
    obtain ⟨A1, c1, rfl, hc1, hr1⟩ := own_row ho1
    have hcv := conv_row (P := Try.prog) (c := c1) hr1 23 5 9 Try.underlying23 Try.underlying5 Try.underlying9
    have HST : Hid (strOfNums ((List.range n).map fun p => ((L.getD p 0).toNat : Int)) = ⟨L.toArray⟩) := Lib.hid (by rw [HN.out, HLE.out]; exact str_enc c)
    rw [HST.out] at hcv
    have HR1 := Lib.hid hr1
    have HB1 : Hid (Below w.heap.size w w1) := Lib.hid (((Below.refl w.heap.size w).alloc (Nat.le_refl _) _).trans hb1)
    have hw1 := HB1.out.size
    clear ho1 hr1 hb1 hc1 HST hmk
    go_wp2_with fail
    refine (quoteJSON ⟨L.toArray⟩ a [c] _ (by rw [HTS.out, ← HN.out]; omega) HCH.out).mono ?_
    rintro e w2 ⟨v2, rfl, ho2, hb2⟩
    obtain ⟨J, hJ⟩ : ∃ J, J = 34 :: [c].flatMap (esc a 34) ++ [34] := ⟨_, rfl⟩
    rw [← hJ] at ho2
    obtain ⟨m, hm⟩ : ∃ m, m = J.length := ⟨_, rfl⟩
    rw [← hm] at ho2
    have HJ : Hid (J = 34 :: esc a 34 c ++ [34]) := Lib.hid (by rw [hJ]; simp)
    have HM := Lib.hid hm
    obtain ⟨A2, c2, rfl, hc2, hr2⟩ := own_row ho2
    have HR2 := Lib.hid hr2
    have HR1' := Lib.hid ((HR1.out.below hb2).more hb2.size)
    have HB2 := Lib.hid (HB1.out.trans (hb2.mono hw1))
    have hm2 : 2 ≤ m := by rw [hm, hJ]; simp
    have hm14 : m ≤ 14 := by have := esc_len a 34 c; rw [hm, HJ.out]; simp; omega
    clear ho2 hr2 hb2 hc2 hJ hm HR1 hcv
    cases hp : plain a c
    · have hne : ¬ (m : Int) = (n : Int) + 2 := by
        have h1 := HM.out
        have h2 := HN.out
        have h3 := esc_ne a c hp
        rw [HJ.out] at h1
        simp only [List.cons_append, List.length_cons, List.length_append, List.length_nil] at h1
        rw [← HLE.out] at h3
        omega
      have hneb : ((m : Int) == (n : Int) + 2) = false := by simpa using hne
      have HP := Lib.hid hp
      clear hp
      go_wp2_with (go_at_call 6; refine (zzcan_is c a false _ HP.out).mono ?_; rintro e w' ⟨rfl, rfl⟩)
      go_ret
      exact ⟨rfl, HB2.out⟩
    · have heq : m = n + 2 := by
        have h1 := HM.out
        have h2 := HN.out
        rw [HJ.out, esc_eq a c hp, ← HLE.out] at h1
        simp only [List.cons_append, List.length_cons, List.length_append, List.length_nil] at h1
        omega
      have HJ2 : Hid (J = 34 :: L ++ [34]) := Lib.hid (by rw [HJ.out, esc_eq a c hp, ← HLE.out])
      have heb : ((m : Int) == (n : Int) + 2) = true := by simp; omega
      obtain ⟨b2, o2, hA2, hlt2, hcell⟩ := HR2.out (by omega)
      obtain ⟨b1, o1, hA1, hlt1, hcell1⟩ := HR1'.out (by omega)
      subst hA2
      subst hA1
      have HEQ := Lib.hid heq
      have hc0 : w2.cell? ⟨b2, o2, none⟩ = some (.int .u8 34) := by
        have := hcell 0 (by omega)
        rw [HJ2.out] at this
        exact this
      have hcl : w2.cell? ⟨b2, o2 + (m - 1), none⟩ = some (.int .u8 34) := by
        have := hcell (m - 1) (by omega)
        rw [this, HJ2.out]
        have e : m - 1 = L.length + 1 := by have := HN.out; omega
        rw [e]
        simp
      have HC1 := Lib.hid hcell1
      have HC2 : Hid (∀ j, j < n → w2.cell? ⟨b2, o2 + (j + 1), none⟩ = some (.int .u8 ((L.getD j 0).toNat : Int))) := Lib.hid (fun j hj => by
        rw [hcell (j + 1) (by omega), HJ2.out]
        have hjL : j < L.length := by rw [← HN.out]; exact hj
        simp only [List.cons_append, List.getD_cons_succ]
        rw [getD_in _ (by simp; omega), List.getElem_append_left hjL, getD_in _ hjL])
      have HP := Lib.hid hp
      clear hp hcell hcell1 heq
      go_wp2_with fail
      go_loopg [7, 8] n (fun g r z wr => (∃ q, wr = w2.drewN q) ∧ r = .bool true ∧ ∃ k : Nat, k ≤ n ∧ g = n - k ∧ z = .int .i64 (k : Int))
      case atStart => exact ⟨⟨0, rfl⟩, rfl, 0, Nat.zero_le _, rfl, rfl⟩
      case round =>
        obtain ⟨⟨q, rfl⟩, rfl, k, hk, rfl, rfl⟩ := hrel
        by_cases hlt : k < n
        · have d1 : (w2.drewN q).cell? ⟨b1, o1 + k, none⟩ = some (.int .u8 ((L.getD k 0).toNat : Int)) := HC1.out k hlt
          have d2 : (w2.drewN q).cell? ⟨b2, o2 + (k + 1), none⟩ = some (.int .u8 ((L.getD k 0).toNat : Int)) := HC2.out k hlt
          have hkm : (k : Int) + 1 < (m : Int) := by have := HEQ.out; omega
          have hs1 : IntKind.i64.wrap ((k : Int) + 1) = (k : Int) + 1 := IntWalk.i64_in _ (by omega)
          have hs2 : (0 : Int) ≤ (k : Int) + 1 := by omega
          have hs3 : ((k : Int) + 1).toNat = k + 1 := by omega
          generalize (L.getD k 0).toNat = B at *
          generalize hW : w2.drewN q = W at *
          go_wp2_with fail
          go_quiet (fail)
          clear hs1 hs2 hs3
          go_wp2_with fail
          go_roundg (n - (k + 1))
          case rel => exact ⟨by rw [← hW]; exact ⟨_, World.drewN_drewN _ _ _⟩, rfl, k + 1, by omega, rfl, by go_num⟩
          case measure => omega
        · go_wp2_with (go_at_call 6; refine (zzcan_is c a true _ HP.out).mono ?_; rintro e w' ⟨rfl, rfl⟩)
          go_ret
          exact ⟨rfl, below_drewN' HB2.out q⟩
theorem fnCanPrintAgreesWithQuoteForJSON.walk (a0 : Int) (w0 : (Lit.int .i32 a0).wf = true) (a1 : Bool) (w : World) : Calls Try.prog 4 #[.int .i32 a0, .bool a1] w fun e w' => e = .returned (.bool true) ∧ Below w.heap.size w w' := by
  clear w0
  by_cases h0 : a0 < 0
  · go_enter Try.func4, Try.ntmps4
    go_wp2
    go_ret
    exact ⟨rfl, Below.refl _ _⟩
  · by_cases h1 : 1114111 < a0
    · have h0' : decide (a0 < 0) = false := by simpa using h0
      go_enter Try.func4, Try.ntmps4
      go_wp2
      go_ret
      exact ⟨rfl, Below.refl _ _⟩
    · by_cases h2 : 55296 ≤ a0 ∧ a0 ≤ 57343
      · obtain ⟨h2, h3⟩ := h2
        have h0' : decide (a0 < 0) = false := by simpa using h0
        have h1' : decide (1114111 < a0) = false := by simpa using h1
        go_enter Try.func4, Try.ntmps4
        go_wp2
        go_ret
        exact ⟨rfl, Below.refl _ _⟩
      · obtain ⟨c, rfl⟩ : ∃ c : Nat, a0 = (c : Int) := ⟨a0.toNat, by omega⟩
        exact lawC c a1 w (by omega) (by omega)

end Go.Proofs.Ytdpacomlnipfgaa

