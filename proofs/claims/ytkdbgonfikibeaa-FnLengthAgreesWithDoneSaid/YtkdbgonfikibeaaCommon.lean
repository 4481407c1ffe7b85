/- Bounds (printed by gen.py). -/
import Derived.Test.YtkdbgonfikibeaaRows
import Derived.Test.YtkdbgonfikibeaaMem
import Derived.WalkKit
import Derived.WalkLawsBesides
import Derived.WalkSpells
import Derived.Deep.LoopGhost
import Derived.Outline
import Derived.RegionTactic
import Derived.StillTailTactics
import Derived.Deep.QuietTactic
import Derived.BigQuiet
import Derived.ChangeAlike
import Derived.Lib.Strings
namespace Go.Proofs.Ytkdbgonfikibeaa
open Go.RowKit
set_option linter.unusedVariables false
set_option linter.unusedSimpArgs false
set_option maxHeartbeats 1000000 in
theorem zzB5 (A0 : Option Addr) (n0 c0 : Nat) (f0 : Nat → ByteArray) (A1 : Option Addr) (n1 c1 : Nat) (w : World) (h0 : InStrs w A0 n0 c0 f0) (h1 : n1 ≤ maxLen) : Calls Try.prog 5 #[.slice A0 n0 c0, .slice A1 n1 c1] w fun e w' => e = .returned (.bool (decide (n0 + tot f0 n0 + n1 ≤ 1048576))) ∧ w = w' := by
  have hm0 := Nat.le_trans h0.le h0.max
  unfold maxLen at hm0
  have H0 := Lib.hid h0
  clear h0
  unfold maxLen at h1
  go_enter Try.func5, Try.ntmps5
  by_cases hA0 : n0 ≤ 1048576
  · go_wp2_with fail
    go_loopg [5, 6] n0 (fun g s z wr => w = wr ∧ ∃ k T : Nat, k ≤ n0 ∧ g = n0 - k ∧ s = .int .i64 (T : Int) ∧ T ≤ 1048576 ∧ Hid (T = n0 + tot f0 k) ∧ z = .int .i64 k)
    case atStart => exact ⟨rfl, 0, n0, Nat.zero_le _, rfl, by go_num, hA0, Lib.hid (by simp [tot]), rfl⟩
    case round =>
      obtain ⟨rfl, k, T, hk, rfl, rfl, hT, hE, rfl⟩ := hrel
      by_cases hlt : k < n0
      · obtain ⟨b, o, rfl, hb, hc⟩ := H0.out.row.at_ hlt
        have ht := tot_at f0 hlt
        by_cases g1 : (f0 k).size ≤ 1048576
        · by_cases g2 : T + (f0 k).size ≤ 1048576
          · go_wp2_with fail
            go_roundg (n0 - (k + 1))
            case rel => exact ⟨rfl, k + 1, T + (f0 k).size, by omega, rfl, by go_num, g2, Lib.hid (by have q := hE.out; simp only [tot]; omega), by go_num⟩
            case measure => omega
          · go_wp2_with fail
            go_ret
            exact ⟨ret_boolv (by  have q := hE.out; exact decide_eq_false (by omega)), rfl⟩
        · go_wp2_with fail
          go_ret
          exact ⟨ret_boolv (by  have q := hE.out; exact decide_eq_false (by omega)), rfl⟩
      · have hkn : k = n0 := by omega
        have E0 : Hid (T = n0 + tot f0 n0) := Lib.hid (by rw [← hkn]; have q := hE.out; omega)
        clear hE hkn
        obtain ⟨T0, rfl⟩ : ∃ X, X = T := ⟨_, rfl⟩
        by_cases hA1 : n1 ≤ 1048576
        · by_cases hB1 : T0 + n1 ≤ 1048576
          · go_wp2_with fail
            go_ret
            exact ⟨ret_boolv (by have q0 := E0.out; exact decide_eq_true (by omega)), rfl⟩
          · go_wp2_with fail
            go_ret
            exact ⟨ret_boolv (by have q0 := E0.out;  exact decide_eq_false (by omega)), rfl⟩
        · go_wp2_with fail
          go_ret
          exact ⟨ret_boolv (by have q0 := E0.out;  exact decide_eq_false (by omega)), rfl⟩
  · go_wp2_with fail
    go_ret
    exact ⟨ret_boolv (by   exact decide_eq_false (by omega)), rfl⟩
set_option maxHeartbeats 1000000 in
theorem zzB11 (A0 : Option Addr) (n0 c0 : Nat) (f0 : Nat → ByteArray) (A1 : Option Addr) (n1 c1 : Nat) (b2 : Bool) (w : World) (h0 : InStrs w A0 n0 c0 f0) (h1 : n1 ≤ maxLen) : Calls Try.prog 11 #[.slice A0 n0 c0, .slice A1 n1 c1, .bool b2] w fun e w' => e = .returned (.bool (decide (n0 + tot f0 n0 + n1 ≤ 1048576))) ∧ w = w' := by
  have hm0 := Nat.le_trans h0.le h0.max
  unfold maxLen at hm0
  have H0 := Lib.hid h0
  clear h0
  unfold maxLen at h1
  go_enter Try.func11, Try.ntmps11
  by_cases hA0 : n0 ≤ 1048576
  · go_wp2_with fail
    go_loopg [7, 8] n0 (fun g s z wr => w = wr ∧ ∃ k T : Nat, k ≤ n0 ∧ g = n0 - k ∧ s = .int .i64 (T : Int) ∧ T ≤ 1048576 ∧ Hid (T = n0 + tot f0 k) ∧ z = .int .i64 k)
    case atStart => exact ⟨rfl, 0, n0, Nat.zero_le _, rfl, by go_num, hA0, Lib.hid (by simp [tot]), rfl⟩
    case round =>
      obtain ⟨rfl, k, T, hk, rfl, rfl, hT, hE, rfl⟩ := hrel
      by_cases hlt : k < n0
      · obtain ⟨b, o, rfl, hb, hc⟩ := H0.out.row.at_ hlt
        have ht := tot_at f0 hlt
        by_cases g1 : (f0 k).size ≤ 1048576
        · by_cases g2 : T + (f0 k).size ≤ 1048576
          · go_wp2_with fail
            go_roundg (n0 - (k + 1))
            case rel => exact ⟨rfl, k + 1, T + (f0 k).size, by omega, rfl, by go_num, g2, Lib.hid (by have q := hE.out; simp only [tot]; omega), by go_num⟩
            case measure => omega
          · go_wp2_with fail
            go_ret
            exact ⟨ret_boolv (by  have q := hE.out; exact decide_eq_false (by omega)), rfl⟩
        · go_wp2_with fail
          go_ret
          exact ⟨ret_boolv (by  have q := hE.out; exact decide_eq_false (by omega)), rfl⟩
      · have hkn : k = n0 := by omega
        have E0 : Hid (T = n0 + tot f0 n0) := Lib.hid (by rw [← hkn]; have q := hE.out; omega)
        clear hE hkn
        obtain ⟨T0, rfl⟩ : ∃ X, X = T := ⟨_, rfl⟩
        by_cases hA1 : n1 ≤ 1048576
        · by_cases hB1 : T0 + n1 ≤ 1048576
          · go_wp2_with fail
            go_ret
            exact ⟨ret_boolv (by have q0 := E0.out; exact decide_eq_true (by omega)), rfl⟩
          · go_wp2_with fail
            go_ret
            exact ⟨ret_boolv (by have q0 := E0.out;  exact decide_eq_false (by omega)), rfl⟩
        · go_wp2_with fail
          go_ret
          exact ⟨ret_boolv (by have q0 := E0.out;  exact decide_eq_false (by omega)), rfl⟩
  · go_wp2_with fail
    go_ret
    exact ⟨ret_boolv (by   exact decide_eq_false (by omega)), rfl⟩
end Go.Proofs.Ytkdbgonfikibeaa
