/- The small functions of the quote laws: canPrintWithoutEscape, RuneLen, zzDecodeUTF8, zzValidUTF8, zzBytesEqual. -/
import Derived.Test.YtdpacomlnipfgaaDec
import Derived.Test.YtdpacomlnipfgaaMem
import Derived.Deep.QuietTactic
import Derived.BigQuiet
import Derived.Deep.LoopGhost
import Derived.Lib.QuoteLoop
namespace Go.Proofs.Ytdpacomlnipfgaa
open Go.RowKit
set_option linter.unusedVariables false
set_option linter.unusedSimpArgs false

theorem ret_bool {a b : Bool} (h : a = true ↔ b = true) : Ending.returned (.bool a) = .returned (.bool b) := by rw [Bool.eq_iff_iff.2 h]
def canB (c : Int) (a : Bool) : Bool := decide (32 ≤ c ∧ c ≤ 33 ∨ 35 ≤ c ∧ c ≤ 91 ∨ 93 ≤ c ∧ c ≤ 126) || (!a && decide (127 ≤ c ∧ c ≤ 55295 ∨ 57344 ≤ c ∧ c ≤ 65278 ∨ 65280 ≤ c))
theorem canB_any (c : Int) (a : Bool) (w : World) : Calls Try.prog 13 #[.int .i32 c, .bool a] w fun e w' => e = .returned (.bool (canB c a)) ∧ w = w' := by
  rcases (show c < 32 ∨ (32 ≤ c ∧ c ≤ 33) ∨ c = 34 ∨ (35 ≤ c ∧ c ≤ 91) ∨ c = 92 ∨ (93 ≤ c ∧ c ≤ 126) ∨ (127 ≤ c ∧ c ≤ 55295) ∨ (55296 ≤ c ∧ c ≤ 57343) ∨ (57344 ≤ c ∧ c ≤ 65278) ∨ c = 65279 ∨ 65280 ≤ c by omega) with h | ⟨h, k⟩ | rfl | ⟨h, k⟩ | rfl | ⟨h, k⟩ | ⟨h, k⟩ | ⟨h, k⟩ | ⟨h, k⟩ | rfl | h
  all_goals
    cases a
    all_goals
      go_enter Try.func13, Try.ntmps13
      go_wp2
      all_goals go_ret
      all_goals exact ⟨ret_bool (by unfold canB; simp <;> omega), rfl⟩
theorem canB_plain (c : Nat) (a : Bool) : canB (c : Int) a = plain a c := by
  rw [Bool.eq_iff_iff]
  unfold canB plain
  by_cases h : c ≤ 126
  · rw [if_pos h]; cases a <;> simp <;> omega
  · rw [if_neg h]; cases a <;> simp <;> omega
theorem can_any (c : Nat) (a : Bool) (w : World) : Calls Try.prog 13 #[.int .i32 (c : Int), .bool a] w fun e w' => e = .returned (.bool (plain a c)) ∧ w = w' := by
  rw [← canB_plain]; exact canB_any c a w
theorem can_is (c : Nat) (a v : Bool) (w : World) (h : plain a c = v) : Calls Try.prog 13 #[.int .i32 (c : Int), .bool a] w fun e w' => e = .returned (.bool v) ∧ w = w' := by
  rw [← h]; exact can_any c a w
theorem zzcan_any (c : Nat) (a : Bool) (w : World) : Calls Try.prog 6 #[.int .i32 (c : Int), .bool a] w fun e w' => e = .returned (.bool (plain a c)) ∧ w = w' := by
  go_enter Try.func6, Try.ntmps6
  go_wp2_with (go_at_call 13; refine (can_any _ _ _).mono ?_; rintro e w' ⟨rfl, rfl⟩)
  go_ret
  exact ⟨rfl, rfl⟩

def rl (c : Nat) : Nat := if c < 128 then 1 else if c < 2048 then 2 else if c < 65536 then 3 else 4
theorem rl_bd (c : Nat) : 1 ≤ rl c ∧ rl c ≤ 4 := by unfold rl; split <;> (try split) <;> (try split) <;> omega
theorem runeLen (c : Nat) (w : World) (h : c ≤ 1114111) (h2 : c < 55296 ∨ 57343 < c) : Calls Try.prog 16 #[.int .i32 (c : Int)] w fun e w' => e = .returned (.int .i64 (rl c : Int)) ∧ w = w' := by
  have ret (a b : Int) (h : a = b) : Ending.returned (.int .i64 a) = .returned (.int .i64 b) := by rw [h]
  rcases (show c < 128 ∨ (128 ≤ c ∧ c < 2048) ∨ (2048 ≤ c ∧ c < 55296) ∨ (57344 ≤ c ∧ c < 65536) ∨ 65536 ≤ c by omega) with h | ⟨h, k⟩ | ⟨h, k⟩ | ⟨h, k⟩ | h
  all_goals
    go_enter Try.func16, Try.ntmps16
    go_wp2
    all_goals go_ret
    all_goals exact ⟨ret _ _ (by unfold rl; repeat' split
                                 all_goals omega), rfl⟩

/-- A reading of one scalar, or none. -/
def Dres (s : ByteArray) (i : Nat) (w : World) (e : Ending) (w' : World) : Prop :=
  w = w' ∧ ((∃ c n : Nat, e = .returned (.tuple #[.int .i32 (c : Int), .int .i64 (n : Int), .bool true]) ∧ Dec s i c n) ∨ e = .returned (.tuple #[.int .i32 0, .int .i64 1, .bool false]))
def acc (s : ByteArray) (i r : Nat) : Nat → Nat
  | 0 => r
  | k + 1 => acc s i r k * 64 + (bt s (i + (k + 1)) - 128)
theorem acc0 (s : ByteArray) (i r : Nat) : acc s i r 0 = r := rfl
theorem acc1 (s : ByteArray) (i r : Nat) : acc s i r 1 = r * 64 + (bt s (i + 1) - 128) := rfl
theorem acc2 (s : ByteArray) (i r : Nat) : acc s i r 2 = (r * 64 + (bt s (i + 1) - 128)) * 64 + (bt s (i + 2) - 128) := rfl
theorem acc3 (s : ByteArray) (i r : Nat) : acc s i r 3 = ((r * 64 + (bt s (i + 1) - 128)) * 64 + (bt s (i + 2) - 128)) * 64 + (bt s (i + 3) - 128) := rfl
theorem acc_le (s : ByteArray) (i r k : Nat) (hr : r ≤ 31) (hk : k ≤ 3) : acc s i r k ≤ 8700000 ∧ (k ≤ 2 → acc s i r k ≤ 140000) := by
  have h1 := bt_lt s (i + 1)
  have h2 := bt_lt s (i + 2)
  have h3 := bt_lt s (i + 3)
  rcases (show k = 0 ∨ k = 1 ∨ k = 2 ∨ k = 3 by omega) with h | h | h | h
  · rw [h, acc0]; omega
  · rw [h, acc1]; omega
  · rw [h, acc2]; omega
  · rw [h, acc3]; omega
theorem tup3 {a a' n n' : Int} {b : Bool} (h : a = a') (k : n = n') : Ending.returned (.tuple #[.int .i32 a, .int .i64 n, .bool b]) = .returned (.tuple #[.int .i32 a', .int .i64 n', .bool b]) := by rw [h, k]
/-- The middle bytes read so far. -/
def Mid (s : ByteArray) (i k : Nat) : Prop := ∀ j, 1 ≤ j → j < k → 128 ≤ bt s (i + j) ∧ bt s (i + j) < 192
theorem Mid.more {s : ByteArray} {i k : Nat} (h : Mid s i k) (h1 : 128 ≤ bt s (i + k)) (h2 : bt s (i + k) < 192) : Mid s i (k + 1) := fun j a b => by
  rcases (show j = k ∨ j < k by omega) with rfl | hj
  · exact ⟨h1, h2⟩
  · exact h j a hj

set_option maxRecDepth 100000 in
set_option maxHeartbeats 1000000 in
theorem zdec2 (s : ByteArray) (i : Nat) (w : World) (hi : i < s.size) (hs : s.size ≤ 1048576) (h0 : (194 : Int) ≤ ((s[i]'hi).toNat : Int)) (h0' : ((s[i]'hi).toNat : Int) ≤ (223 : Int)) :
    Calls Try.prog 15 #[.string s, .int .i64 (i : Int)] w (Dres s i w) := by
  have hb0 := bt_get s i hi
  have HB0 := Lib.hid hb0
  clear hb0
  have m0 : bits .and .u8 ((s[i]'hi).toNat : Int) 31 = ((s[i]'hi).toNat : Int) - 192 := by rw [u8_and31 _ (by omega) (by omega)]; omega
  by_cases hroom : i + 1 < s.size
  · go_enter Try.func15, Try.ntmps15
    go_wp2_with fail
    go_loopg [9, 11] 1 (fun g r z wr => w = wr ∧ ∃ k : Nat, 1 ≤ k ∧ k ≤ 2 ∧ g = 2 - k ∧ z = .int .i64 (k : Int) ∧ r = .int .i32 (acc s i ((s[i]'hi).toNat - 192) (k - 1) : Int) ∧ Mid s i k)
    case atStart => exact ⟨rfl, 1, by omega, by omega, rfl, rfl, by rw [Nat.sub_self, acc0]; congr 1; omega, fun j a b => by omega⟩
    case round =>
      obtain ⟨rfl, k, hk1, hk2, rfl, rfl, rfl, hmid⟩ := hrel
      have HM := Lib.hid hmid
      clear hmid m0
      have hacc := acc_le s i ((s[i]'hi).toNat - 192) (k - 1) (by omega) (by omega)
      have hA : acc s i ((s[i]'hi).toNat - 192) (k - 1) ≤ 8700000 := hacc.1
      by_cases hlt : k ≤ 1
      · have hA2 : acc s i ((s[i]'hi).toNat - 192) (k - 1) ≤ 140000 := hacc.2 (by omega)
        clear hacc
        have HE : Hid (acc s i ((s[i]'hi).toNat - 192) (k + 1 - 1) = acc s i ((s[i]'hi).toNat - 192) (k - 1) * 64 + (bt s (i + k) - 128)) := Lib.hid (by
          obtain ⟨m, rfl⟩ : ∃ m, k = m + 1 := ⟨k - 1, by omega⟩
          rfl)
        have hik : i + k < s.size := by omega
        have hbk := bt_get s (i + k) hik
        have HBK := Lib.hid hbk
        have hbl := UInt8.toNat_lt (s[i + k]'hik)
        clear hbk
        generalize acc s i ((s[i]'hi).toNat - 192) (k - 1) = A at *
        by_cases hc : 128 ≤ (s[i + k]'hik).toNat ∧ (s[i + k]'hik).toNat < 192
        · obtain ⟨hc1, hc2⟩ := hc
          have n1 : (bits .and .u8 ((s[i + k]'hik).toNat : Int) 192 != 128) = false := by rw [and192 _ (UInt8.toNat_lt _)]; simp; omega
          have m1 : bits .and .u8 ((s[i + k]'hik).toNat : Int) 63 = ((s[i + k]'hik).toNat : Int) - 128 := by rw [u8_and63 _ (by omega) (by omega)]; omega
          go_wp2_with fail
          go_roundg (2 - (k + 1))
          case rel => exact ⟨rfl, k + 1, by omega, by omega, rfl, by go_num, by rw [HE.out, ← HBK.out]; congr 1; omega, HM.out.more (by rw [← HBK.out]; exact hc1) (by rw [← HBK.out]; exact hc2)⟩
          case measure => omega
        · have n1 : (bits .and .u8 ((s[i + k]'hik).toNat : Int) 192 != 128) = true := by rw [and192 _ (UInt8.toNat_lt _)]; simp; omega
          go_wp2_with fail
          go_ret3
          exact ⟨rfl, .inr rfl⟩
      · have hk : k = 2 := by omega
        subst hk
        clear hacc
        simp only [Nat.add_one_sub_one, Nat.reduceSub] at *
        have HA : Hid (acc s i ((s[i]'hi).toNat - 192) 1 = (bt s i - 192) * 64 + (bt s (i + 1) - 128)) := Lib.hid (by rw [HB0.out, acc1]; try omega)
        have HDEC : Hid (128 ≤ acc s i ((s[i]'hi).toNat - 192) 1 → acc s i ((s[i]'hi).toNat - 192) 1 ≤ 1114111 → (acc s i ((s[i]'hi).toNat - 192) 1 < 55296 ∨ 57343 < acc s i ((s[i]'hi).toNat - 192) 1) → Dec s i (acc s i ((s[i]'hi).toNat - 192) 1) 2) := Lib.hid (fun a b c => by
          have q1 := HM.out 1 (by omega) (by omega)
          have hx := HB0.out
          have hy := HA.out
          unfold Dec
          right; left
          omega)
        generalize acc s i ((s[i]'hi).toNat - 192) 1 = A at *
        by_cases hq : 128 ≤ A
        · by_cases hq1 : A ≤ 1114111
          · by_cases hq2 : A < 55296
            · have hq3 : ¬ (55296 : Int) ≤ (A : Int) := by omega
              go_wp2_with fail
              all_goals go_ret3
              all_goals exact ⟨rfl, .inl ⟨A, 2, rfl, HDEC.out hq hq1 (.inl hq2)⟩⟩
            · by_cases hq3 : A ≤ 57343
              · go_wp2_with fail
                all_goals go_ret3
                all_goals exact ⟨rfl, .inr rfl⟩
              · go_wp2_with fail
                all_goals go_ret3
                all_goals exact ⟨rfl, .inl ⟨A, 2, rfl, HDEC.out hq hq1 (.inr (by omega))⟩⟩
          · go_wp2_with fail
            all_goals go_ret3
            all_goals exact ⟨rfl, .inr rfl⟩
        · go_wp2_with fail
          all_goals go_ret3
          all_goals exact ⟨rfl, .inr rfl⟩
  · go_enter Try.func15, Try.ntmps15
    go_wp2_with fail
    go_ret3
    exact ⟨rfl, .inr rfl⟩

set_option maxRecDepth 100000 in
set_option maxHeartbeats 1000000 in
theorem zdec3 (s : ByteArray) (i : Nat) (w : World) (hi : i < s.size) (hs : s.size ≤ 1048576) (h0 : (224 : Int) ≤ ((s[i]'hi).toNat : Int)) (h0' : ((s[i]'hi).toNat : Int) ≤ (239 : Int)) :
    Calls Try.prog 15 #[.string s, .int .i64 (i : Int)] w (Dres s i w) := by
  have hb0 := bt_get s i hi
  have HB0 := Lib.hid hb0
  clear hb0
  have m0 : bits .and .u8 ((s[i]'hi).toNat : Int) 15 = ((s[i]'hi).toNat : Int) - 224 := by rw [u8_and15 _ (by omega) (by omega)]; omega
  by_cases hroom : i + 2 < s.size
  · go_enter Try.func15, Try.ntmps15
    go_wp2_with fail
    go_loopg [9, 11] 2 (fun g r z wr => w = wr ∧ ∃ k : Nat, 1 ≤ k ∧ k ≤ 3 ∧ g = 3 - k ∧ z = .int .i64 (k : Int) ∧ r = .int .i32 (acc s i ((s[i]'hi).toNat - 224) (k - 1) : Int) ∧ Mid s i k)
    case atStart => exact ⟨rfl, 1, by omega, by omega, rfl, rfl, by rw [Nat.sub_self, acc0]; congr 1; omega, fun j a b => by omega⟩
    case round =>
      obtain ⟨rfl, k, hk1, hk2, rfl, rfl, rfl, hmid⟩ := hrel
      have HM := Lib.hid hmid
      clear hmid m0
      have hacc := acc_le s i ((s[i]'hi).toNat - 224) (k - 1) (by omega) (by omega)
      have hA : acc s i ((s[i]'hi).toNat - 224) (k - 1) ≤ 8700000 := hacc.1
      by_cases hlt : k ≤ 2
      · have hA2 : acc s i ((s[i]'hi).toNat - 224) (k - 1) ≤ 140000 := hacc.2 (by omega)
        clear hacc
        have HE : Hid (acc s i ((s[i]'hi).toNat - 224) (k + 1 - 1) = acc s i ((s[i]'hi).toNat - 224) (k - 1) * 64 + (bt s (i + k) - 128)) := Lib.hid (by
          obtain ⟨m, rfl⟩ : ∃ m, k = m + 1 := ⟨k - 1, by omega⟩
          rfl)
        have hik : i + k < s.size := by omega
        have hbk := bt_get s (i + k) hik
        have HBK := Lib.hid hbk
        have hbl := UInt8.toNat_lt (s[i + k]'hik)
        clear hbk
        generalize acc s i ((s[i]'hi).toNat - 224) (k - 1) = A at *
        by_cases hc : 128 ≤ (s[i + k]'hik).toNat ∧ (s[i + k]'hik).toNat < 192
        · obtain ⟨hc1, hc2⟩ := hc
          have n1 : (bits .and .u8 ((s[i + k]'hik).toNat : Int) 192 != 128) = false := by rw [and192 _ (UInt8.toNat_lt _)]; simp; omega
          have m1 : bits .and .u8 ((s[i + k]'hik).toNat : Int) 63 = ((s[i + k]'hik).toNat : Int) - 128 := by rw [u8_and63 _ (by omega) (by omega)]; omega
          go_wp2_with fail
          go_roundg (3 - (k + 1))
          case rel => exact ⟨rfl, k + 1, by omega, by omega, rfl, by go_num, by rw [HE.out, ← HBK.out]; congr 1; omega, HM.out.more (by rw [← HBK.out]; exact hc1) (by rw [← HBK.out]; exact hc2)⟩
          case measure => omega
        · have n1 : (bits .and .u8 ((s[i + k]'hik).toNat : Int) 192 != 128) = true := by rw [and192 _ (UInt8.toNat_lt _)]; simp; omega
          go_wp2_with fail
          go_ret3
          exact ⟨rfl, .inr rfl⟩
      · have hk : k = 3 := by omega
        subst hk
        clear hacc
        simp only [Nat.add_one_sub_one, Nat.reduceSub] at *
        have HA : Hid (acc s i ((s[i]'hi).toNat - 224) 2 = (bt s i - 224) * 4096 + (bt s (i + 1) - 128) * 64 + (bt s (i + 2) - 128)) := Lib.hid (by rw [HB0.out, acc2]; try omega)
        have HDEC : Hid (2048 ≤ acc s i ((s[i]'hi).toNat - 224) 2 → acc s i ((s[i]'hi).toNat - 224) 2 ≤ 1114111 → (acc s i ((s[i]'hi).toNat - 224) 2 < 55296 ∨ 57343 < acc s i ((s[i]'hi).toNat - 224) 2) → Dec s i (acc s i ((s[i]'hi).toNat - 224) 2) 3) := Lib.hid (fun a b c => by
          have q1 := HM.out 1 (by omega) (by omega)
          have q2 := HM.out 2 (by omega) (by omega)
          have hx := HB0.out
          have hy := HA.out
          unfold Dec
          right; right; left
          omega)
        generalize acc s i ((s[i]'hi).toNat - 224) 2 = A at *
        by_cases hq : 2048 ≤ A
        · by_cases hq1 : A ≤ 1114111
          · by_cases hq2 : A < 55296
            · have hq3 : ¬ (55296 : Int) ≤ (A : Int) := by omega
              go_wp2_with fail
              all_goals go_ret3
              all_goals exact ⟨rfl, .inl ⟨A, 3, rfl, HDEC.out hq hq1 (.inl hq2)⟩⟩
            · by_cases hq3 : A ≤ 57343
              · go_wp2_with fail
                all_goals go_ret3
                all_goals exact ⟨rfl, .inr rfl⟩
              · go_wp2_with fail
                all_goals go_ret3
                all_goals exact ⟨rfl, .inl ⟨A, 3, rfl, HDEC.out hq hq1 (.inr (by omega))⟩⟩
          · go_wp2_with fail
            all_goals go_ret3
            all_goals exact ⟨rfl, .inr rfl⟩
        · go_wp2_with fail
          all_goals go_ret3
          all_goals exact ⟨rfl, .inr rfl⟩
  · go_enter Try.func15, Try.ntmps15
    go_wp2_with fail
    go_ret3
    exact ⟨rfl, .inr rfl⟩

set_option maxRecDepth 100000 in
set_option maxHeartbeats 1000000 in
theorem zdec4 (s : ByteArray) (i : Nat) (w : World) (hi : i < s.size) (hs : s.size ≤ 1048576) (h0 : (240 : Int) ≤ ((s[i]'hi).toNat : Int)) (h0' : ((s[i]'hi).toNat : Int) ≤ (244 : Int)) :
    Calls Try.prog 15 #[.string s, .int .i64 (i : Int)] w (Dres s i w) := by
  have hb0 := bt_get s i hi
  have HB0 := Lib.hid hb0
  clear hb0
  have m0 : bits .and .u8 ((s[i]'hi).toNat : Int) 7 = ((s[i]'hi).toNat : Int) - 240 := by rw [u8_and7 _ (by omega) (by omega)]; omega
  by_cases hroom : i + 3 < s.size
  · go_enter Try.func15, Try.ntmps15
    go_wp2_with fail
    go_loopg [9, 11] 3 (fun g r z wr => w = wr ∧ ∃ k : Nat, 1 ≤ k ∧ k ≤ 4 ∧ g = 4 - k ∧ z = .int .i64 (k : Int) ∧ r = .int .i32 (acc s i ((s[i]'hi).toNat - 240) (k - 1) : Int) ∧ Mid s i k)
    case atStart => exact ⟨rfl, 1, by omega, by omega, rfl, rfl, by rw [Nat.sub_self, acc0]; congr 1; omega, fun j a b => by omega⟩
    case round =>
      obtain ⟨rfl, k, hk1, hk2, rfl, rfl, rfl, hmid⟩ := hrel
      have HM := Lib.hid hmid
      clear hmid m0
      have hacc := acc_le s i ((s[i]'hi).toNat - 240) (k - 1) (by omega) (by omega)
      have hA : acc s i ((s[i]'hi).toNat - 240) (k - 1) ≤ 8700000 := hacc.1
      by_cases hlt : k ≤ 3
      · have hA2 : acc s i ((s[i]'hi).toNat - 240) (k - 1) ≤ 140000 := hacc.2 (by omega)
        clear hacc
        have HE : Hid (acc s i ((s[i]'hi).toNat - 240) (k + 1 - 1) = acc s i ((s[i]'hi).toNat - 240) (k - 1) * 64 + (bt s (i + k) - 128)) := Lib.hid (by
          obtain ⟨m, rfl⟩ : ∃ m, k = m + 1 := ⟨k - 1, by omega⟩
          rfl)
        have hik : i + k < s.size := by omega
        have hbk := bt_get s (i + k) hik
        have HBK := Lib.hid hbk
        have hbl := UInt8.toNat_lt (s[i + k]'hik)
        clear hbk
        generalize acc s i ((s[i]'hi).toNat - 240) (k - 1) = A at *
        by_cases hc : 128 ≤ (s[i + k]'hik).toNat ∧ (s[i + k]'hik).toNat < 192
        · obtain ⟨hc1, hc2⟩ := hc
          have n1 : (bits .and .u8 ((s[i + k]'hik).toNat : Int) 192 != 128) = false := by rw [and192 _ (UInt8.toNat_lt _)]; simp; omega
          have m1 : bits .and .u8 ((s[i + k]'hik).toNat : Int) 63 = ((s[i + k]'hik).toNat : Int) - 128 := by rw [u8_and63 _ (by omega) (by omega)]; omega
          go_wp2_with fail
          go_roundg (4 - (k + 1))
          case rel => exact ⟨rfl, k + 1, by omega, by omega, rfl, by go_num, by rw [HE.out, ← HBK.out]; congr 1; omega, HM.out.more (by rw [← HBK.out]; exact hc1) (by rw [← HBK.out]; exact hc2)⟩
          case measure => omega
        · have n1 : (bits .and .u8 ((s[i + k]'hik).toNat : Int) 192 != 128) = true := by rw [and192 _ (UInt8.toNat_lt _)]; simp; omega
          go_wp2_with fail
          go_ret3
          exact ⟨rfl, .inr rfl⟩
      · have hk : k = 4 := by omega
        subst hk
        clear hacc
        simp only [Nat.add_one_sub_one, Nat.reduceSub] at *
        have HA : Hid (acc s i ((s[i]'hi).toNat - 240) 3 = (bt s i - 240) * 262144 + (bt s (i + 1) - 128) * 4096 + (bt s (i + 2) - 128) * 64 + (bt s (i + 3) - 128)) := Lib.hid (by rw [HB0.out, acc3]; try omega)
        have HDEC : Hid (65536 ≤ acc s i ((s[i]'hi).toNat - 240) 3 → acc s i ((s[i]'hi).toNat - 240) 3 ≤ 1114111 → (acc s i ((s[i]'hi).toNat - 240) 3 < 55296 ∨ 57343 < acc s i ((s[i]'hi).toNat - 240) 3) → Dec s i (acc s i ((s[i]'hi).toNat - 240) 3) 4) := Lib.hid (fun a b c => by
          have q1 := HM.out 1 (by omega) (by omega)
          have q2 := HM.out 2 (by omega) (by omega)
          have q3 := HM.out 3 (by omega) (by omega)
          have hx := HB0.out
          have hy := HA.out
          unfold Dec
          right; right; right
          omega)
        generalize acc s i ((s[i]'hi).toNat - 240) 3 = A at *
        by_cases hq : 65536 ≤ A
        · by_cases hq1 : A ≤ 1114111
          · by_cases hq2 : A < 55296
            · have hq3 : ¬ (55296 : Int) ≤ (A : Int) := by omega
              go_wp2_with fail
              all_goals go_ret3
              all_goals exact ⟨rfl, .inl ⟨A, 4, rfl, HDEC.out hq hq1 (.inl hq2)⟩⟩
            · by_cases hq3 : A ≤ 57343
              · go_wp2_with fail
                all_goals go_ret3
                all_goals exact ⟨rfl, .inr rfl⟩
              · go_wp2_with fail
                all_goals go_ret3
                all_goals exact ⟨rfl, .inl ⟨A, 4, rfl, HDEC.out hq hq1 (.inr (by omega))⟩⟩
          · go_wp2_with fail
            all_goals go_ret3
            all_goals exact ⟨rfl, .inr rfl⟩
        · go_wp2_with fail
          all_goals go_ret3
          all_goals exact ⟨rfl, .inr rfl⟩
  · go_enter Try.func15, Try.ntmps15
    go_wp2_with fail
    go_ret3
    exact ⟨rfl, .inr rfl⟩

set_option maxRecDepth 100000 in
theorem zdec (s : ByteArray) (i : Nat) (w : World) (hi : i < s.size) (hs : s.size ≤ 1048576) : Calls Try.prog 15 #[.string s, .int .i64 (i : Int)] w (Dres s i w) := by
  have hl := UInt8.toNat_lt (s[i]'hi)
  rcases (show (s[i]'hi).toNat < 128 ∨ (128 ≤ (s[i]'hi).toNat ∧ (s[i]'hi).toNat < 194) ∨ (194 ≤ (s[i]'hi).toNat ∧ (s[i]'hi).toNat ≤ 223) ∨ (224 ≤ (s[i]'hi).toNat ∧ (s[i]'hi).toNat ≤ 239) ∨ (240 ≤ (s[i]'hi).toNat ∧ (s[i]'hi).toNat ≤ 244) ∨ (245 ≤ (s[i]'hi).toNat) by omega) with h | ⟨h, k⟩ | ⟨h, k⟩ | ⟨h, k⟩ | ⟨h, k⟩ | h
  · have HD : Hid (Dec s i (s[i]'hi).toNat 1) := Lib.hid (by have := bt_get s i hi; unfold Dec; left; omega)
    go_enter Try.func15, Try.ntmps15
    go_wp2_with fail
    go_ret3
    exact ⟨rfl, .inl ⟨_, 1, rfl, HD.out⟩⟩
  · go_enter Try.func15, Try.ntmps15
    go_wp2_with fail
    go_ret3
    exact ⟨rfl, .inr rfl⟩
  · exact zdec2 s i w hi hs (by omega) (by omega)
  · exact zdec3 s i w hi hs (by omega) (by omega)
  · exact zdec4 s i w hi hs (by omega) (by omega)
  · go_enter Try.func15, Try.ntmps15
    go_wp2_with fail
    go_ret3
    exact ⟨rfl, .inr rfl⟩

def Valid (s : ByteArray) (w : World) (e : Ending) (w' : World) : Prop := w = w' ∧ (e = .returned (.bool false) ∨ (e = .returned (.bool true) ∧ ∃ cs, Chain s 0 cs))
theorem valid_any (s : ByteArray) (w : World) (hs : s.size ≤ 1048576) : Calls Try.prog 10 #[.string s] w (Valid s w) := by
  go_enter Try.func10, Try.ntmps10
  go_wp2_with fail
  go_loopg [3] s.size (fun g z wr => w = wr ∧ ∃ k : Nat, k ≤ s.size ∧ g = s.size - k ∧ z = .int .i64 (k : Int) ∧ ∀ cs, Chain s k cs → ∃ ds, Chain s 0 ds)
  case atStart => exact ⟨rfl, 0, Nat.zero_le _, rfl, rfl, fun cs h => ⟨cs, h⟩⟩
  case round =>
    obtain ⟨rfl, k, hk, rfl, rfl, hch⟩ := hrel
    have HC := Lib.hid hch
    clear hch
    by_cases hlt : k < s.size
    · go_wp2_with fail
      refine (zdec s k _ hlt hs).mono ?_
      rintro e w1 ⟨rfl, ⟨c, n, rfl, hd⟩ | rfl⟩
      · have hw := hd.width
        have HD := Lib.hid hd
        clear hd
        go_wp2_with fail
        go_roundg (s.size - (k + n))
        case rel => exact ⟨rfl, k + n, by omega, rfl, by go_num, fun cs h => HC.out _ (Chain.cons HD.out h)⟩
        case measure => omega
      · go_wp2_with fail
        go_ret
        exact ⟨rfl, .inl rfl⟩
    · have he : k = s.size := by omega
      subst he
      go_wp2_with fail
      go_ret
      exact ⟨rfl, .inr ⟨rfl, HC.out [] Chain.nil⟩⟩
end Go.Proofs.Ytdpacomlnipfgaa

