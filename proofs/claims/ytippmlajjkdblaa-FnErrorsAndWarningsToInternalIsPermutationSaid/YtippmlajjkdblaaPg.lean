/- stable, Stable (printed by genPe.py). -/
import Derived.Test.YtippmlajjkdblaaPf
namespace Go.Proofs.Ytippmlajjkdblaa
open Go.RowKit
set_option linter.unusedVariables false
set_option linter.unusedSimpArgs false
set_option maxRecDepth 100000 in
set_option maxHeartbeats 4000000 in
theorem stable (I : World → Prop) (g n c : Nat) (hI : SI I g n c) (w : World) (h : I w) (hn : n ≤ 1048576) :
    Calls Try.prog 19 #[.iface 55 (.slice (some ⟨g, 0, none⟩) n c), .int .i64 n] w fun e w' => e = .returned (.tuple #[]) ∧ I w' := by
  have H := Lib.hid h
  have HI := Lib.hid hI
  clear h hI
  go_enter Try.func19, Try.ntmps19
  go_wp2_with fail
  go_loopg [5, 6] n (fun q i j wr => ∃ p : Nat, p ≤ n ∧ q = n - p ∧ i = .int .i64 p ∧ j = .int .i64 ((p : Int) + 20) ∧ Hid (I wr))
  case atStart => exact ⟨0, Nat.zero_le _, rfl, rfl, rfl, H⟩
  case round =>
    obtain ⟨p, hp, rfl, rfl, rfl, HR⟩ := hrel
    by_cases hlt : p + 20 ≤ n
    · go_wp2_with (go_at_call 21; refine (insertion I g n c (p) (p + 20) _ _ HI.out _ HR.out (by omega) (by omega) (by omega) hn (by omega)).mono ?_; rintro e w2 ⟨rfl, h2⟩; have H2 := Lib.hid h2; clear h2)
      go_roundg (n - (p + 20))
      case rel => exact ⟨p + 20, hlt, rfl, by rw [show (p : Int) + 20 = ((p + 20 : Nat) : Int) by omega], by rw [show (p : Int) + 20 + 20 = ((p + 20 : Nat) : Int) + 20 by omega], H2⟩
      case measure => omega
    · go_wp2_with (go_at_call 21; refine (insertion I g n c (p) (n) _ _ HI.out _ HR.out (by omega) (by omega) (by omega) hn (by omega)).mono ?_; rintro e w2 ⟨rfl, h2⟩; have H2 := Lib.hid h2; clear h2)
      go_loopg [4, 5, 6, 7] (n - 20) (fun q s i j m wr => ∃ z : Nat, 1 ≤ z ∧ z ≤ 2097152 ∧ q = n - z ∧ s = .int .i64 z ∧ Hid (I wr))
      case atStart => exact ⟨20, by omega, by omega, rfl, rfl, H2⟩
      case round =>
        obtain ⟨z, hz1, hz2, rfl, rfl, HZ⟩ := hrel
        by_cases hzn : z < n
        · go_wp2_with fail
          generalize wr = wO at *
          go_loopg [5, 6] n (fun q i j wy => ∃ p : Nat, p ≤ n ∧ q = n - p ∧ i = .int .i64 p ∧ j = .int .i64 ((p : Int) + 2 * (z : Int)) ∧ Hid (I wy))
          case atStart => exact ⟨0, Nat.zero_le _, rfl, rfl, by rw [show ((0 : Nat) : Int) + 2 * (z : Int) = 2 * (z : Int) by omega], HZ⟩
          case round =>
            obtain ⟨p2, hp2, rfl, rfl, rfl, HY⟩ := hrel
            by_cases hle : p2 + 2 * z ≤ n
            · go_wp2_with (go_at_call 22; refine (symMerge I g n c HI.out hn n (p2) (p2 + z) (p2 + 2 * z) _ _ _ _ HY.out (by omega) (by omega) (by omega) (by omega) (by omega) (by omega) (by omega)).mono ?_; rintro e w2 ⟨rfl, h2⟩; have H2 := Lib.hid h2; clear h2)
              go_roundg (n - (p2 + 2 * z))
              case rel => exact ⟨p2 + 2 * z, hle, rfl, by rw [show (p2 : Int) + 2 * (z : Int) = ((p2 + 2 * z : Nat) : Int) by omega], by rw [show (p2 : Int) + 2 * (z : Int) + 2 * (z : Int) = ((p2 + 2 * z : Nat) : Int) + 2 * (z : Int) by omega], H2⟩
              case measure => omega
            · by_cases hml : p2 + z < n
              · go_wp2_with (go_at_call 22; refine (symMerge I g n c HI.out hn n (p2) (p2 + z) (n) _ _ _ _ HY.out (by omega) (by omega) (by omega) (by omega) (by omega) (by omega) (by omega)).mono ?_; rintro e w2 ⟨rfl, h2⟩; have H2 := Lib.hid h2; clear h2)
                go_roundg (n - z * 2)
                case rel => exact ⟨z * 2, by omega, by omega, rfl, by rw [show (z : Int) * 2 = ((z * 2 : Nat) : Int) by omega], H2⟩
                case measure => omega
              · go_wp2_with fail
                go_roundg (n - z * 2)
                case rel => exact ⟨z * 2, by omega, by omega, rfl, by rw [show (z : Int) * 2 = ((z * 2 : Nat) : Int) by omega], HY⟩
                case measure => omega
        · go_wp2_with fail
          go_end0
          exact ⟨rfl, HZ.out⟩
set_option maxRecDepth 100000 in
set_option maxHeartbeats 4000000 in
theorem sortStable (I : World → Prop) (g n c : Nat) (hI : SI I g n c) (w : World) (h : I w) (hn : n ≤ 1048576) : Calls Try.prog 16 #[.iface 55 (.slice (some ⟨g, 0, none⟩) n c)] w fun e w' => e = .returned (.tuple #[]) ∧ I w' := by
  have hm := fun w => methLen (some ⟨g, 0, none⟩) n c w
  have H := Lib.hid h
  have HI := Lib.hid hI
  clear h hI
  go_enter Try.func16, Try.ntmps16
  go_wp2_with (first | (go_at_call 19; refine (stable I g n c HI.out _ H.out hn).mono ?_; rintro e w' ⟨rfl, h2⟩) | (go_at_call 44; go_in))
  go_end0
  exact ⟨rfl, h2⟩
end Go.Proofs.Ytippmlajjkdblaa
