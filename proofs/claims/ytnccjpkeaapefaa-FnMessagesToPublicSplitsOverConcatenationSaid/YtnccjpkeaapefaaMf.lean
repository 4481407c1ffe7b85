/- The bound (printed by gen.py). -/
import Derived.Test.YtnccjpkeaapefaaRows
import Derived.Test.YtnccjpkeaapefaaMem
import Derived.WalkKit
import Derived.WalkLawsBesides
import Derived.WalkSpells
import Derived.Deep.LoopGhost
import Derived.Outline
import Derived.RegionTactic
import Derived.StillTailTactics
import Derived.Deep.QuietTactic
import Derived.BigQuiet
import Derived.ChangeAlike
import Derived.Lib.Strings
namespace Go.Proofs.Ytnccjpkeaapefaa
open Go.RowKit
set_option linter.unusedVariables false
set_option linter.unusedSimpArgs false
set_option maxHeartbeats 2000000 in
set_option maxRecDepth 100000 in
theorem zzB (x0 : Int) (x1 : Int) (A2 : Option Addr) (n2 c2 : Nat) (A3 : Option Addr) (n3 c3 : Nat) (A4 : Option Addr) (n4 c4 : Nat) (f4 : Nat → ByteArray) (A5 : Option Addr) (n5 c5 : Nat) (f5 : Nat → ByteArray) (A6 : Option Addr) (n6 c6 : Nat) (x7 : Int) (x8 : Int) (w : World) (h2 : n2 ≤ maxLen) (h3 : n3 ≤ maxLen) (h4 : InStrs w A4 n4 c4 f4) (h5 : InStrs w A5 n5 c5 f5) (h6 : n6 ≤ maxLen) : Calls Try.prog 4 #[.int .u8 x0, .int .i64 x1, .slice A2 n2 c2, .slice A3 n3 c3, .slice A4 n4 c4, .slice A5 n5 c5, .slice A6 n6 c6, .int .u8 x7, .int .u8 x8] w fun e w' => e = .returned (.bool (decide (n2 + n3 + n4 + tot f4 n4 + n5 + tot f5 n5 + n6 ≤ 1048576))) ∧ w = w' := by
  unfold maxLen at h2
  unfold maxLen at h3
  have hm4 := Nat.le_trans h4.le h4.max
  unfold maxLen at hm4
  have H4 := Lib.hid h4
  clear h4
  have hm5 := Nat.le_trans h5.le h5.max
  unfold maxLen at hm5
  have H5 := Lib.hid h5
  clear h5
  unfold maxLen at h6
  go_enter Try.func4, Try.ntmps4
  by_cases hA2 : n2 ≤ 1048576
  · by_cases hA3 : n3 ≤ 1048576
    · by_cases hB3 : n2 + n3 ≤ 1048576
      · by_cases hA4 : n4 ≤ 1048576
        · by_cases hB4 : n2 + n3 + n4 ≤ 1048576
          · go_wp2_with fail
            go_loopg [19, 20] n4 (fun g s z wr => w = wr ∧ ∃ k T : Nat, k ≤ n4 ∧ g = n4 - k ∧ s = .int .i64 (T : Int) ∧ T ≤ 1048576 ∧ Hid (T = n2 + n3 + n4 + tot f4 k) ∧ z = .int .i64 k)
            case atStart => exact ⟨rfl, 0, n2 + n3 + n4, Nat.zero_le _, rfl, by go_num, hB4, Lib.hid (by simp [tot]), rfl⟩
            case round =>
              obtain ⟨rfl, k, T, hk, rfl, rfl, hT, hE, rfl⟩ := hrel
              by_cases hlt : k < n4
              · obtain ⟨b, o, rfl, hb, hc⟩ := H4.out.row.at_ hlt
                have ht := tot_at f4 hlt
                by_cases g1 : (f4 k).size ≤ 1048576
                · by_cases g2 : T + (f4 k).size ≤ 1048576
                  · go_wp2_with fail
                    go_roundg (n4 - (k + 1))
                    case rel => exact ⟨rfl, k + 1, T + (f4 k).size, by omega, rfl, by go_num, g2, Lib.hid (by have q := hE.out; simp only [tot]; omega), by go_num⟩
                    case measure => omega
                  · go_wp2_with fail
                    go_ret
                    exact ⟨ret_boolv (by  have q := hE.out; exact decide_eq_false (by omega)), rfl⟩
                · go_wp2_with fail
                  go_ret
                  exact ⟨ret_boolv (by  have q := hE.out; exact decide_eq_false (by omega)), rfl⟩
              · have hkn : k = n4 := by omega
                have E4 : Hid (T = n2 + n3 + n4 + tot f4 n4) := Lib.hid (by rw [← hkn]; have q := hE.out; omega)
                clear hE hkn
                obtain ⟨T4, rfl⟩ : ∃ X, X = T := ⟨_, rfl⟩
                by_cases hA5 : n5 ≤ 1048576
                · by_cases hB5 : T4 + n5 ≤ 1048576
                  · go_wp2_with fail
                    go_loopg [19, 21] n5 (fun g s z wr => w = wr ∧ ∃ k T : Nat, k ≤ n5 ∧ g = n5 - k ∧ s = .int .i64 (T : Int) ∧ T ≤ 1048576 ∧ Hid (T = T4 + n5 + tot f5 k) ∧ z = .int .i64 k)
                    case atStart => exact ⟨rfl, 0, T4 + n5, Nat.zero_le _, rfl, by go_num, hB5, Lib.hid (by simp [tot]), rfl⟩
                    case round =>
                      obtain ⟨rfl, k, T, hk, rfl, rfl, hT, hE, rfl⟩ := hrel
                      by_cases hlt : k < n5
                      · obtain ⟨b, o, rfl, hb, hc⟩ := H5.out.row.at_ hlt
                        have ht := tot_at f5 hlt
                        by_cases g1 : (f5 k).size ≤ 1048576
                        · by_cases g2 : T + (f5 k).size ≤ 1048576
                          · go_wp2_with fail
                            go_roundg (n5 - (k + 1))
                            case rel => exact ⟨rfl, k + 1, T + (f5 k).size, by omega, rfl, by go_num, g2, Lib.hid (by have q := hE.out; simp only [tot]; omega), by go_num⟩
                            case measure => omega
                          · go_wp2_with fail
                            go_ret
                            exact ⟨ret_boolv (by have q4 := E4.out; have q := hE.out; exact decide_eq_false (by omega)), rfl⟩
                        · go_wp2_with fail
                          go_ret
                          exact ⟨ret_boolv (by have q4 := E4.out; have q := hE.out; exact decide_eq_false (by omega)), rfl⟩
                      · have hkn : k = n5 := by omega
                        have E5 : Hid (T = T4 + n5 + tot f5 n5) := Lib.hid (by rw [← hkn]; have q := hE.out; omega)
                        clear hE hkn
                        obtain ⟨T5, rfl⟩ : ∃ X, X = T := ⟨_, rfl⟩
                        by_cases hA6 : n6 ≤ 1048576
                        · by_cases hB6 : T5 + n6 ≤ 1048576
                          · go_wp2_with fail
                            go_ret
                            exact ⟨ret_boolv (by have q4 := E4.out; have q5 := E5.out; exact decide_eq_true (by omega)), rfl⟩
                          · go_wp2_with fail
                            go_ret
                            exact ⟨ret_boolv (by have q4 := E4.out; have q5 := E5.out;  exact decide_eq_false (by omega)), rfl⟩
                        · go_wp2_with fail
                          go_ret
                          exact ⟨ret_boolv (by have q4 := E4.out; have q5 := E5.out;  exact decide_eq_false (by omega)), rfl⟩
                  · go_wp2_with fail
                    go_ret
                    exact ⟨ret_boolv (by have q4 := E4.out;  exact decide_eq_false (by omega)), rfl⟩
                · go_wp2_with fail
                  go_ret
                  exact ⟨ret_boolv (by have q4 := E4.out;  exact decide_eq_false (by omega)), rfl⟩
          · go_wp2_with fail
            go_ret
            exact ⟨ret_boolv (by   exact decide_eq_false (by omega)), rfl⟩
        · go_wp2_with fail
          go_ret
          exact ⟨ret_boolv (by   exact decide_eq_false (by omega)), rfl⟩
      · go_wp2_with fail
        go_ret
        exact ⟨ret_boolv (by   exact decide_eq_false (by omega)), rfl⟩
    · go_wp2_with fail
      go_ret
      exact ⟨ret_boolv (by   exact decide_eq_false (by omega)), rfl⟩
  · go_wp2_with fail
    go_ret
    exact ⟨ret_boolv (by   exact decide_eq_false (by omega)), rfl⟩
end Go.Proofs.Ytnccjpkeaapefaa

