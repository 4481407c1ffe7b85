/- A bound on lists of lists (printed by gen.py). -/
import Derived.Test.YtnifibidbldneaaRows
import Derived.Test.YtnifibidbldneaaMem
import Derived.WalkKit
import Derived.WalkLawsBesides
import Derived.WalkSpells
import Derived.Deep.LoopGhost
import Derived.Outline
import Derived.RegionTactic
import Derived.StillTailTactics
import Derived.Deep.QuietTactic
import Derived.BigQuiet
import Derived.ChangeAlike
import Derived.Lib.Strings
import Derived.Test.YtnifibidbldneaaNest
namespace Go.Proofs.Ytnifibidbldneaa
open Go.RowKit
set_option linter.unusedVariables false
set_option linter.unusedSimpArgs false
/-- What a walk is told of a list of lists of strings that came in. -/
structure InRows (w : World) (A : Option Addr) (n c : Nat) (AA : Nat → Option Addr) (nn cc : Nat → Nat) (ff : Nat → Nat → ByteArray) : Prop where
  out : RowF w w.heap.size A n (fun i => .slice (AA i) (nn i) (cc i))
  inn : ∀ i, i < n → RowF w w.heap.size (AA i) (nn i) (fun j => .string (ff i j))
  szs : ∀ i j, (ff i j).size ≤ maxLen
  nns : ∀ i, nn i ≤ maxLen
  le : n ≤ c
  max : c ≤ maxLen
set_option maxHeartbeats 2000000 in
set_option maxRecDepth 100000 in
theorem zzB10 (A0 : Option Addr) (n0 c0 : Nat) (f0 : Nat → ByteArray) (A1 : Option Addr) (n1 c1 : Nat) (f1 : Nat → ByteArray) (A2 : Option Addr) (n2 c2 : Nat) (AA2 : Nat → Option Addr) (nn2 cc2 : Nat → Nat) (ff2 : Nat → Nat → ByteArray) (w : World) (h0 : InStrs w A0 n0 c0 f0) (h1 : InStrs w A1 n1 c1 f1) (h2 : InRows w A2 n2 c2 AA2 nn2 cc2 ff2) : Calls Try.prog 10 #[.slice A0 n0 c0, .slice A1 n1 c1, .slice A2 n2 c2] w fun e w' => e = .returned (.bool (decide (n0 + tot f0 n0 + n1 + tot f1 n1 + n2 + tot2 nn2 ff2 n2 ≤ 1048576))) ∧ w = w' := by
  have hm0 := Nat.le_trans h0.le h0.max
  unfold maxLen at hm0
  have H0 := Lib.hid h0
  clear h0
  have hm1 := Nat.le_trans h1.le h1.max
  unfold maxLen at hm1
  have H1 := Lib.hid h1
  clear h1
  have hm2 := Nat.le_trans h2.le h2.max
  unfold maxLen at hm2
  have H2 := Lib.hid h2
  clear h2
  go_enter Try.func10, Try.ntmps10
  by_cases hA0 : n0 ≤ 1048576
  · go_wp2_with fail
    go_loopg [7, 8] n0 (fun g s z wr => w = wr ∧ ∃ k T : Nat, k ≤ n0 ∧ g = n0 - k ∧ s = .int .i64 (T : Int) ∧ T ≤ 1048576 ∧ Hid (T = n0 + tot f0 k) ∧ z = .int .i64 k)
    case atStart => exact ⟨rfl, 0, n0, Nat.zero_le _, rfl, by go_num, hA0, Lib.hid (by simp [tot]), rfl⟩
    case round =>
      obtain ⟨rfl, k, T, hk, rfl, rfl, hT, hE, rfl⟩ := hrel
      by_cases hlt : k < n0
      · obtain ⟨b, o, rfl, hb, hc⟩ := H0.out.row.at_ hlt
        have ht := tot_at f0 hlt
        by_cases g1 : (f0 k).size ≤ 1048576
        · by_cases g2 : T + (f0 k).size ≤ 1048576
          · go_wp2_with fail
            go_roundg (n0 - (k + 1))
            case rel => exact ⟨rfl, k + 1, T + (f0 k).size, by omega, rfl, by go_num, g2, Lib.hid (by have q := hE.out; simp only [tot]; omega), by go_num⟩
            case measure => omega
          · go_wp2_with fail
            go_ret
            exact ⟨ret_boolv (by  have q := hE.out; exact decide_eq_false (by omega)), rfl⟩
        · go_wp2_with fail
          go_ret
          exact ⟨ret_boolv (by  have q := hE.out; exact decide_eq_false (by omega)), rfl⟩
      · have hkn : k = n0 := by omega
        have E0 : Hid (T = n0 + tot f0 n0) := Lib.hid (by rw [← hkn]; have q := hE.out; omega)
        clear hE hkn
        obtain ⟨T0, rfl⟩ : ∃ X, X = T := ⟨_, rfl⟩
        by_cases hA1 : n1 ≤ 1048576
        · by_cases hB1 : T0 + n1 ≤ 1048576
          · go_wp2_with fail
            go_loopg [7, 9] n1 (fun g s z wr => w = wr ∧ ∃ k T : Nat, k ≤ n1 ∧ g = n1 - k ∧ s = .int .i64 (T : Int) ∧ T ≤ 1048576 ∧ Hid (T = T0 + n1 + tot f1 k) ∧ z = .int .i64 k)
            case atStart => exact ⟨rfl, 0, T0 + n1, Nat.zero_le _, rfl, by go_num, hB1, Lib.hid (by simp [tot]), rfl⟩
            case round =>
              obtain ⟨rfl, k, T, hk, rfl, rfl, hT, hE, rfl⟩ := hrel
              by_cases hlt : k < n1
              · obtain ⟨b, o, rfl, hb, hc⟩ := H1.out.row.at_ hlt
                have ht := tot_at f1 hlt
                by_cases g1 : (f1 k).size ≤ 1048576
                · by_cases g2 : T + (f1 k).size ≤ 1048576
                  · go_wp2_with fail
                    go_roundg (n1 - (k + 1))
                    case rel => exact ⟨rfl, k + 1, T + (f1 k).size, by omega, rfl, by go_num, g2, Lib.hid (by have q := hE.out; simp only [tot]; omega), by go_num⟩
                    case measure => omega
                  · go_wp2_with fail
                    go_ret
                    exact ⟨ret_boolv (by have q0 := E0.out; have q := hE.out; exact decide_eq_false (by omega)), rfl⟩
                · go_wp2_with fail
                  go_ret
                  exact ⟨ret_boolv (by have q0 := E0.out; have q := hE.out; exact decide_eq_false (by omega)), rfl⟩
              · have hkn : k = n1 := by omega
                have E1 : Hid (T = T0 + n1 + tot f1 n1) := Lib.hid (by rw [← hkn]; have q := hE.out; omega)
                clear hE hkn
                obtain ⟨T1, rfl⟩ : ∃ X, X = T := ⟨_, rfl⟩
                by_cases hA2 : n2 ≤ 1048576
                · by_cases hB2 : T1 + n2 ≤ 1048576
                  · go_wp2_with fail
                    go_loopg [7, 10] n2 (fun g s z wr => w = wr ∧ ∃ k T : Nat, k ≤ n2 ∧ g = n2 - k ∧ s = .int .i64 (T : Int) ∧ T ≤ 1048576 ∧ Hid (T = T1 + n2 + tot2 nn2 ff2 k) ∧ z = .int .i64 k)
                    case atStart => exact ⟨rfl, 0, T1 + n2, Nat.zero_le _, rfl, by go_num, hB2, Lib.hid (by simp [tot2]), rfl⟩
                    case round =>
                      obtain ⟨rfl, k, T, hk, rfl, rfl, hT, hE, rfl⟩ := hrel
                      by_cases hlt : k < n2
                      · obtain ⟨b, o, rfl, hb, hc⟩ := H2.out.out.at_ hlt
                        have ht := tot2_at nn2 ff2 hlt
                        have hnm := H2.out.nns k
                        unfold maxLen at hnm
                        by_cases g1 : nn2 k ≤ 1048576
                        · by_cases g2 : T + nn2 k ≤ 1048576
                          · go_wp2_with fail
                            go_loopg [7, 11] (nn2 k) (fun g s z wr => w = wr ∧ ∃ j U : Nat, j ≤ nn2 k ∧ g = nn2 k - j ∧ s = .int .i64 (U : Int) ∧ U ≤ 1048576 ∧ Hid (U = T + nn2 k + tot (ff2 k) j) ∧ z = .int .i64 j)
                            case atStart => exact ⟨rfl, 0, T + nn2 k, Nat.zero_le _, rfl, by go_num, g2, Lib.hid (by simp [tot]), rfl⟩
                            case round =>
                              obtain ⟨rfl, j, U, hj, rfl, rfl, hU, hF, rfl⟩ := hrel
                              by_cases hjl : j < nn2 k
                              · obtain ⟨bi, oi, hAe, hbi, hci⟩ := (H2.out.inn k hlt).at_ hjl
                                rw [hAe] at hc
                                have htj := tot_at (ff2 k) hjl
                                have hsm := H2.out.szs k j
                                unfold maxLen at hsm
                                by_cases g3 : (ff2 k j).size ≤ 1048576
                                · by_cases g4 : U + (ff2 k j).size ≤ 1048576
                                  · go_wp2_with fail
                                    go_roundg (nn2 k - (j + 1))
                                    case rel => exact ⟨rfl, j + 1, U + (ff2 k j).size, by omega, rfl, by go_num, g4, Lib.hid (by have q := hF.out; simp only [tot]; omega), by go_num⟩
                                    case measure => omega
                                  · go_wp2_with fail
                                    go_ret
                                    exact ⟨ret_boolv (by have q0 := E0.out; have q1 := E1.out; have q := hE.out; have q' := hF.out; exact decide_eq_false (by omega)), rfl⟩
                                · go_wp2_with fail
                                  go_ret
                                  exact ⟨ret_boolv (by have q0 := E0.out; have q1 := E1.out; have q := hE.out; have q' := hF.out; exact decide_eq_false (by omega)), rfl⟩
                              · have hjn : j = nn2 k := by omega
                                have HJN := Lib.hid hjn
                                clear hjn
                                go_wp2_with fail
                                go_roundg (n2 - (k + 1))
                                case rel => exact ⟨rfl, k + 1, U, by omega, rfl, rfl, hU, Lib.hid (by have q := hE.out; have q' := hF.out; rw [HJN.out] at q'; simp only [tot2]; omega), by go_num⟩
                                case measure => omega
                          · go_wp2_with fail
                            go_ret
                            exact ⟨ret_boolv (by have q0 := E0.out; have q1 := E1.out; have q := hE.out; exact decide_eq_false (by omega)), rfl⟩
                        · go_wp2_with fail
                          go_ret
                          exact ⟨ret_boolv (by have q0 := E0.out; have q1 := E1.out; have q := hE.out; exact decide_eq_false (by omega)), rfl⟩
                      · have hkn : k = n2 := by omega
                        have E2 : Hid (T = T1 + n2 + tot2 nn2 ff2 n2) := Lib.hid (by rw [← hkn]; have q := hE.out; omega)
                        clear hE hkn
                        obtain ⟨T2, rfl⟩ : ∃ X, X = T := ⟨_, rfl⟩
                        go_wp2_with fail
                        go_ret
                        exact ⟨ret_boolv (by have q0 := E0.out; have q1 := E1.out; have q2 := E2.out; exact decide_eq_true (by omega)), rfl⟩
                  · go_wp2_with fail
                    go_ret
                    exact ⟨ret_boolv (by have q0 := E0.out; have q1 := E1.out;  exact decide_eq_false (by omega)), rfl⟩
                · go_wp2_with fail
                  go_ret
                  exact ⟨ret_boolv (by have q0 := E0.out; have q1 := E1.out;  exact decide_eq_false (by omega)), rfl⟩
          · go_wp2_with fail
            go_ret
            exact ⟨ret_boolv (by have q0 := E0.out;  exact decide_eq_false (by omega)), rfl⟩
        · go_wp2_with fail
          go_ret
          exact ⟨ret_boolv (by have q0 := E0.out;  exact decide_eq_false (by omega)), rfl⟩
  · go_wp2_with fail
    go_ret
    exact ⟨ret_boolv (by   exact decide_eq_false (by omega)), rfl⟩
end Go.Proofs.Ytnifibidbldneaa
