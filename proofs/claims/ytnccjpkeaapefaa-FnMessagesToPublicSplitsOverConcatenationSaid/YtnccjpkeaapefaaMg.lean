/- The two sums and the lengths' bound. -/
import Derived.Test.YtnccjpkeaapefaaMd
import Derived.Test.YtnccjpkeaapefaaMf
namespace Go.Proofs.Ytnccjpkeaapefaa
open Go.RowKit
set_option linter.unusedVariables false
set_option linter.unusedSimpArgs false
theorem strBytes (A : Option Addr) (n c B : Nat) (f : Nat → ByteArray) (w : World) (hrow : RowF w B A n (fun j => .string (f j))) (hn : n ≤ 1048576) :
    Calls Try.prog 10 #[.slice A n c] w fun e w' => ∃ x : Int, e = .returned (.int .i64 x) ∧ w' = w := by
  have H := Lib.hid hrow
  clear hrow
  go_enter Try.func10, Try.ntmps10
  go_wp2_with fail
  go_loopg [3, 4] n (fun q s i wr => w = wr ∧ ∃ (k : Nat) (x : Int), k ≤ n ∧ q = n - k ∧ s = .int .i64 x ∧ i = .int .i64 k)
  case atStart => exact ⟨rfl, 0, 0, Nat.zero_le _, rfl, rfl, rfl⟩
  case round =>
    obtain ⟨rfl, k, x, hk, rfl, rfl, rfl⟩ := hrel
    by_cases hlt : k < n
    · obtain ⟨b, o, rfl, hb, hc⟩ := H.out.at_ hlt
      go_wp2_with fail
      go_roundg (n - (k + 1))
      case rel => exact ⟨rfl, k + 1, _, by omega, by omega, rfl, by go_num⟩
      case measure => omega
    · have hkk : k = n := by omega
      go_wp2_with fail
      go_ret
      exact ⟨_, rfl, rfl⟩
theorem msgBytes (A0 A1 A2 A3 A4 : Option Addr) (n0 c0 n1 c1 n2 c2 n3 c3 n4 c4 B B' : Nat) (f f' : Nat → ByteArray) (w : World) (h2 : RowF w B A2 n2 (fun j => .string (f j))) (h3 : RowF w B' A3 n3 (fun j => .string (f' j))) (hn2 : n2 ≤ 1048576) (hn3 : n3 ≤ 1048576) :
    Calls Try.prog 6 #[.slice A0 n0 c0, .slice A1 n1 c1, .slice A2 n2 c2, .slice A3 n3 c3, .slice A4 n4 c4] w fun e w' => ∃ x : Int, e = .returned (.int .i64 x) ∧ w' = w := by
  have C2 := Lib.hid (strBytes A2 n2 c2 B f w h2 hn2)
  have C3 := Lib.hid (strBytes A3 n3 c3 B' f' w h3 hn3)
  clear h2 h3
  go_enter Try.func6, Try.ntmps6
  go_wp2_with fail
  refine C2.out.mono ?_
  rintro e w1 ⟨x, rfl, rfl⟩
  go_wp2_with fail
  refine C3.out.mono ?_
  rintro e w1 ⟨x', rfl, rfl⟩
  go_wp2_with fail
  all_goals go_ret
  all_goals exact ⟨_, rfl, rfl⟩
theorem lensOK (A0 A1 A2 A3 A4 : Option Addr) (n0 c0 n1 c1 n2 c2 n3 c3 n4 c4 : Nat) (w : World) :
    Calls Try.prog 5 #[.slice A0 n0 c0, .slice A1 n1 c1, .slice A2 n2 c2, .slice A3 n3 c3, .slice A4 n4 c4] w fun e w' => e = .returned (.bool (decide (n0 ≤ 4096 ∧ n1 ≤ 4096 ∧ n2 ≤ 4096 ∧ n3 ≤ 4096 ∧ n4 ≤ 4096))) ∧ w' = w := by
  by_cases h0 : n0 ≤ 4096
  · by_cases h1 : n1 ≤ 4096
    · by_cases h2 : n2 ≤ 4096
      · by_cases h3 : n3 ≤ 4096
        · by_cases h4 : n4 ≤ 4096
          · go_enter Try.func5, Try.ntmps5
            go_wp2_with fail
            go_ret
            exact ⟨ret_boolv (by first | rfl | exact decide_eq_decide.2 (by omega) | (simp; omega)), rfl⟩
          · go_enter Try.func5, Try.ntmps5
            go_wp2_with fail
            go_ret
            exact ⟨ret_boolv (by first | rfl | exact decide_eq_decide.2 (by omega) | (simp; omega)), rfl⟩
        · go_enter Try.func5, Try.ntmps5
          go_wp2_with fail
          go_ret
          exact ⟨ret_boolv (by first | rfl | exact decide_eq_decide.2 (by omega) | (simp; omega)), rfl⟩
      · go_enter Try.func5, Try.ntmps5
        go_wp2_with fail
        go_ret
        exact ⟨ret_boolv (by first | rfl | exact decide_eq_decide.2 (by omega) | (simp; omega)), rfl⟩
    · go_enter Try.func5, Try.ntmps5
      go_wp2_with fail
      go_ret
      exact ⟨ret_boolv (by first | rfl | exact decide_eq_decide.2 (by omega) | (simp; omega)), rfl⟩
  · go_enter Try.func5, Try.ntmps5
    go_wp2_with fail
    go_ret
    exact ⟨ret_boolv (by first | rfl | exact decide_eq_decide.2 (by omega) | (simp; omega)), rfl⟩
end Go.Proofs.Ytnccjpkeaapefaa
