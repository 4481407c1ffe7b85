/- DecodeWTF8Rune at a scalar's bytes. -/
import Derived.Test.YtdpacomlnipfgaaRows
import Derived.Test.YtdpacomlnipfgaaUtf
import Derived.WalkKit
import Derived.WalkLawsBesides
import Derived.WalkSpells
import Derived.Outline
import Derived.IntWalk
import Derived.Lib.Hide
import Derived.Laws.BitsLemmas
namespace Go.Proofs.Ytdpacomlnipfgaa
open Go.RowKit
set_option linter.unusedVariables false
set_option linter.unusedSimpArgs false

set_option maxRecDepth 1000000 in
theorem mask_table : ∀ b : Fin 256, (bits .and .u8 (b.val : Int) 224 = (b.val / 32 * 32 : Nat)) ∧ (bits .and .u8 (b.val : Int) 240 = (b.val / 16 * 16 : Nat)) ∧ (bits .and .u8 (b.val : Int) 248 = (b.val / 8 * 8 : Nat)) ∧ (bits .and .u8 (b.val : Int) 192 = (b.val / 64 * 64 : Nat)) := by decide
theorem and224 (b : Nat) (h : b < 256) : bits .and .u8 (b : Int) 224 = (b / 32 * 32 : Nat) := (mask_table ⟨b, h⟩).1
theorem and240 (b : Nat) (h : b < 256) : bits .and .u8 (b : Int) 240 = (b / 16 * 16 : Nat) := (mask_table ⟨b, h⟩).2.1
theorem and248 (b : Nat) (h : b < 256) : bits .and .u8 (b : Int) 248 = (b / 8 * 8 : Nat) := (mask_table ⟨b, h⟩).2.2.1
theorem and192 (b : Nat) (h : b < 256) : bits .and .u8 (b : Int) 192 = (b / 64 * 64 : Nat) := (mask_table ⟨b, h⟩).2.2.2

set_option maxRecDepth 100000 in
theorem dec1 (s : ByteArray) (w : World) (hn : 0 < s.size) (h0 : ((s[0]'hn).toNat : Int) < 128) :
    Calls Try.prog 17 #[.string s] w fun e w' => e = .returned (.tuple #[.int .i32 ((s[0]'hn).toNat : Int), .int .i64 1]) ∧ w = w' := by
  go_enter Try.func17, Try.ntmps17
  go_wp2_with fail
  go_ret2
  exact ⟨rfl, rfl⟩
set_option maxRecDepth 100000 in
theorem dec2 (s : ByteArray) (w : World) (hn : 1 < s.size) (h0 : (194 : Int) ≤ ((s[0]'(by omega)).toNat : Int)) (h0' : ((s[0]'(by omega)).toNat : Int) ≤ 223) (h1 : (128 : Int) ≤ ((s[1]'(by omega)).toNat : Int)) (h1' : ((s[1]'(by omega)).toNat : Int) < 192)
    (c : Int) (hc : c = (((s[0]'(by omega)).toNat : Int) - (192 : Int)) * (64 : Int) + (((s[1]'(by omega)).toNat : Int) - (128 : Int))) :
    Calls Try.prog 17 #[.string s] w fun e w' => e = .returned (.tuple #[.int .i32 c, .int .i64 2]) ∧ w = w' := by
  have t224 : (bits .and .u8 ((s[0]'(by omega)).toNat : Int) 224 == 192) = true := by rw [and224 _ (UInt8.toNat_lt _)]; simp; omega
  have n1 : (bits .and .u8 ((s[1]'(by omega)).toNat : Int) 192 != 128) = false := by rw [and192 _ (UInt8.toNat_lt _)]; simp; omega
  have m1 : bits .and .u8 ((s[1]'(by omega)).toNat : Int) 63 = ((s[1]'(by omega)).toNat : Int) - (128 : Int) := by rw [u8_and63 _ (by omega) (by omega)]; omega
  have m0 : bits .and .u8 ((s[0]'(by omega)).toNat : Int) 31 = ((s[0]'(by omega)).toNat : Int) - (192 : Int) := by rw [u8_and31 _ (by omega) (by omega)]; omega
  have HC := Lib.hid hc
  clear hc
  go_enter Try.func17, Try.ntmps17
  go_wp2_with fail
  go_ret2
  exact ⟨by rw [HC.out]; rfl, rfl⟩
set_option maxRecDepth 100000 in
theorem dec3 (s : ByteArray) (w : World) (hn : 2 < s.size) (h0 : (224 : Int) ≤ ((s[0]'(by omega)).toNat : Int)) (h0' : ((s[0]'(by omega)).toNat : Int) ≤ 239) (h1 : (128 : Int) ≤ ((s[1]'(by omega)).toNat : Int)) (h1' : ((s[1]'(by omega)).toNat : Int) < 192) (h2 : (128 : Int) ≤ ((s[2]'(by omega)).toNat : Int)) (h2' : ((s[2]'(by omega)).toNat : Int) < 192)
    (c : Int) (hc : c = (((s[0]'(by omega)).toNat : Int) - (224 : Int)) * (4096 : Int) + (((s[1]'(by omega)).toNat : Int) - (128 : Int)) * (64 : Int) + (((s[2]'(by omega)).toNat : Int) - (128 : Int))) (hlo : (2048 : Int) ≤ c) :
    Calls Try.prog 17 #[.string s] w fun e w' => e = .returned (.tuple #[.int .i32 c, .int .i64 3]) ∧ w = w' := by
  have t224 : (bits .and .u8 ((s[0]'(by omega)).toNat : Int) 224 == 192) = false := by rw [and224 _ (UInt8.toNat_lt _)]; simp; omega
  have t240 : (bits .and .u8 ((s[0]'(by omega)).toNat : Int) 240 == 224) = true := by rw [and240 _ (UInt8.toNat_lt _)]; simp; omega
  have n1 : (bits .and .u8 ((s[1]'(by omega)).toNat : Int) 192 != 128) = false := by rw [and192 _ (UInt8.toNat_lt _)]; simp; omega
  have m1 : bits .and .u8 ((s[1]'(by omega)).toNat : Int) 63 = ((s[1]'(by omega)).toNat : Int) - (128 : Int) := by rw [u8_and63 _ (by omega) (by omega)]; omega
  have n2 : (bits .and .u8 ((s[2]'(by omega)).toNat : Int) 192 != 128) = false := by rw [and192 _ (UInt8.toNat_lt _)]; simp; omega
  have m2 : bits .and .u8 ((s[2]'(by omega)).toNat : Int) 63 = ((s[2]'(by omega)).toNat : Int) - (128 : Int) := by rw [u8_and63 _ (by omega) (by omega)]; omega
  have m0 : bits .and .u8 ((s[0]'(by omega)).toNat : Int) 15 = ((s[0]'(by omega)).toNat : Int) - (224 : Int) := by rw [u8_and15 _ (by omega) (by omega)]; omega
  have HC := Lib.hid hc
  have hlo' : (2048 : Int) ≤ (((s[0]'(by omega)).toNat : Int) - (224 : Int)) * (4096 : Int) + (((s[1]'(by omega)).toNat : Int) - (128 : Int)) * (64 : Int) + (((s[2]'(by omega)).toNat : Int) - (128 : Int)) := by rw [← hc]; exact hlo
  clear hc
  go_enter Try.func17, Try.ntmps17
  go_wp2_with fail
  go_ret2
  exact ⟨by rw [HC.out]; rfl, rfl⟩
set_option maxRecDepth 100000 in
theorem dec4 (s : ByteArray) (w : World) (hn : 3 < s.size) (h0 : (240 : Int) ≤ ((s[0]'(by omega)).toNat : Int)) (h0' : ((s[0]'(by omega)).toNat : Int) ≤ 244) (h1 : (128 : Int) ≤ ((s[1]'(by omega)).toNat : Int)) (h1' : ((s[1]'(by omega)).toNat : Int) < 192) (h2 : (128 : Int) ≤ ((s[2]'(by omega)).toNat : Int)) (h2' : ((s[2]'(by omega)).toNat : Int) < 192) (h3 : (128 : Int) ≤ ((s[3]'(by omega)).toNat : Int)) (h3' : ((s[3]'(by omega)).toNat : Int) < 192)
    (c : Int) (hc : c = (((s[0]'(by omega)).toNat : Int) - (240 : Int)) * (262144 : Int) + (((s[1]'(by omega)).toNat : Int) - (128 : Int)) * (4096 : Int) + (((s[2]'(by omega)).toNat : Int) - (128 : Int)) * (64 : Int) + (((s[3]'(by omega)).toNat : Int) - (128 : Int))) (hlo : (65536 : Int) ≤ c) (hhi : c ≤ 1114111) :
    Calls Try.prog 17 #[.string s] w fun e w' => e = .returned (.tuple #[.int .i32 c, .int .i64 4]) ∧ w = w' := by
  have t224 : (bits .and .u8 ((s[0]'(by omega)).toNat : Int) 224 == 192) = false := by rw [and224 _ (UInt8.toNat_lt _)]; simp; omega
  have t240 : (bits .and .u8 ((s[0]'(by omega)).toNat : Int) 240 == 224) = false := by rw [and240 _ (UInt8.toNat_lt _)]; simp; omega
  have t248 : (bits .and .u8 ((s[0]'(by omega)).toNat : Int) 248 == 240) = true := by rw [and248 _ (UInt8.toNat_lt _)]; simp; omega
  have n1 : (bits .and .u8 ((s[1]'(by omega)).toNat : Int) 192 != 128) = false := by rw [and192 _ (UInt8.toNat_lt _)]; simp; omega
  have m1 : bits .and .u8 ((s[1]'(by omega)).toNat : Int) 63 = ((s[1]'(by omega)).toNat : Int) - (128 : Int) := by rw [u8_and63 _ (by omega) (by omega)]; omega
  have n2 : (bits .and .u8 ((s[2]'(by omega)).toNat : Int) 192 != 128) = false := by rw [and192 _ (UInt8.toNat_lt _)]; simp; omega
  have m2 : bits .and .u8 ((s[2]'(by omega)).toNat : Int) 63 = ((s[2]'(by omega)).toNat : Int) - (128 : Int) := by rw [u8_and63 _ (by omega) (by omega)]; omega
  have n3 : (bits .and .u8 ((s[3]'(by omega)).toNat : Int) 192 != 128) = false := by rw [and192 _ (UInt8.toNat_lt _)]; simp; omega
  have m3 : bits .and .u8 ((s[3]'(by omega)).toNat : Int) 63 = ((s[3]'(by omega)).toNat : Int) - (128 : Int) := by rw [u8_and63 _ (by omega) (by omega)]; omega
  have m0 : bits .and .u8 ((s[0]'(by omega)).toNat : Int) 7 = ((s[0]'(by omega)).toNat : Int) - (240 : Int) := by rw [u8_and7 _ (by omega) (by omega)]; omega
  have HC := Lib.hid hc
  have hlo' : (65536 : Int) ≤ (((s[0]'(by omega)).toNat : Int) - (240 : Int)) * (262144 : Int) + (((s[1]'(by omega)).toNat : Int) - (128 : Int)) * (4096 : Int) + (((s[2]'(by omega)).toNat : Int) - (128 : Int)) * (64 : Int) + (((s[3]'(by omega)).toNat : Int) - (128 : Int)) := by rw [← hc]; exact hlo
  have hhi' : (((s[0]'(by omega)).toNat : Int) - (240 : Int)) * (262144 : Int) + (((s[1]'(by omega)).toNat : Int) - (128 : Int)) * (4096 : Int) + (((s[2]'(by omega)).toNat : Int) - (128 : Int)) * (64 : Int) + (((s[3]'(by omega)).toNat : Int) - (128 : Int)) ≤ 1114111 := by rw [← hc]; exact hhi
  clear hc
  go_enter Try.func17, Try.ntmps17
  go_wp2_with fail
  go_ret2
  exact ⟨by rw [HC.out]; rfl, rfl⟩

theorem dec_any (s : ByteArray) (c n : Nat) (w : World) (h : Dec s 0 c n) :
    Calls Try.prog 17 #[.string s] w fun e w' => e = .returned (.tuple #[.int .i32 (c : Int), .int .i64 (n : Int)]) ∧ w = w' := by
  have hb : ∀ k, (hk : k < s.size) → ((s[k]'hk).toNat : Int) = (bt s k : Int) := fun k hk => by rw [bt_get]
  unfold Dec at h
  simp only [Nat.zero_add] at h
  rcases h with ⟨rfl, h1, h2, h3⟩ | ⟨rfl, h1, h2⟩ | ⟨rfl, h1, h2⟩ | ⟨rfl, h1, h2⟩
  · subst h3
    have := dec1 s w (by omega) (by rw [hb 0 (by omega)]; omega)
    rw [hb 0 (by omega)] at this
    exact this
  · exact dec2 s w (by omega) (by rw [hb 0 (by omega)]; omega) (by rw [hb 0 (by omega)]; omega) (by rw [hb 1 (by omega)]; omega) (by rw [hb 1 (by omega)]; omega) _ (by rw [hb 0 (by omega), hb 1 (by omega)]; omega)
  · exact dec3 s w (by omega) (by rw [hb 0 (by omega)]; omega) (by rw [hb 0 (by omega)]; omega) (by rw [hb 1 (by omega)]; omega) (by rw [hb 1 (by omega)]; omega) (by rw [hb 2 (by omega)]; omega) (by rw [hb 2 (by omega)]; omega) _ (by rw [hb 0 (by omega), hb 1 (by omega), hb 2 (by omega)]; omega) (by omega)
  · exact dec4 s w (by omega) (by rw [hb 0 (by omega)]; omega) (by rw [hb 0 (by omega)]; omega) (by rw [hb 1 (by omega)]; omega) (by rw [hb 1 (by omega)]; omega) (by rw [hb 2 (by omega)]; omega) (by rw [hb 2 (by omega)]; omega) (by rw [hb 3 (by omega)]; omega) (by rw [hb 3 (by omega)]; omega) _ (by rw [hb 0 (by omega), hb 1 (by omega), hb 2 (by omega), hb 3 (by omega)]; omega) (by omega) (by omega)
end Go.Proofs.Ytdpacomlnipfgaa
