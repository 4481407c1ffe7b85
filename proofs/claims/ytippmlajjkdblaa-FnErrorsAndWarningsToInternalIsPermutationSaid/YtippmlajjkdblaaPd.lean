/- sort.Stable over a row of messages: an invariant that Less and Swap keep. -/
import Derived.Test.YtippmlajjkdblaaPc
namespace Go.Proofs.Ytippmlajjkdblaa
open Go.RowKit
set_option linter.unusedVariables false
set_option linter.unusedSimpArgs false
/-- What Less and Swap keep. -/
structure SI (I : World → Prop) (g n c : Nat) : Prop where
  less : ∀ (w : World) (i j : Nat) (x y : Int), I w → x = i → y = j → i < n → j < n → Calls Try.prog 45 #[.slice (some ⟨g, 0, none⟩) n c, .int .i64 x, .int .i64 y] w fun e w' => IsB e ∧ I w'
  swap : ∀ (w : World) (i j : Nat) (x y : Int), I w → x = i → y = j → i < n → j < n → Calls Try.prog 46 #[.slice (some ⟨g, 0, none⟩) n c, .int .i64 x, .int .i64 y] w fun e w' => e = .returned (.tuple #[]) ∧ I w'
theorem methL (A : Option Addr) (n c : Nat) (w : World) : (method 202 55 (.slice A n c) "Less").run Try.prog w = .ok (45, .slice A n c) w := by kernel_rfl
theorem methS (A : Option Addr) (n c : Nat) (w : World) : (method 202 55 (.slice A n c) "Swap").run Try.prog w = .ok (46, .slice A n c) w := by kernel_rfl
theorem methLen (A : Option Addr) (n c : Nat) (w : World) : (method 202 55 (.slice A n c) "Len").run Try.prog w = .ok (44, .slice A n c) w := by kernel_rfl
set_option maxRecDepth 100000 in
set_option maxHeartbeats 4000000 in
theorem insertion (I : World → Prop) (g n c a b : Nat) (x y : Int) (hI : SI I g n c) (w : World) (h : I w) (hx : x = a) (hy : y = b) (hb : b ≤ n) (hn : n ≤ 1048576) (ha : a ≤ n) :
    Calls Try.prog 21 #[.iface 55 (.slice (some ⟨g, 0, none⟩) n c), .int .i64 x, .int .i64 y] w fun e w' => e = .returned (.tuple #[]) ∧ I w' := by
  subst hx hy
  have H := Lib.hid h
  have HI := Lib.hid hI
  have hm := fun w => methL (some ⟨g, 0, none⟩) n c w
  have hms := fun w => methS (some ⟨g, 0, none⟩) n c w
  clear h hI
  go_enter Try.func21, Try.ntmps21
  go_wp2_with fail
  go_loopg [6] (b - a) (fun q i wr => ∃ d : Nat, a ≤ d ∧ d ≤ n ∧ q = b - d ∧ i = .int .i64 ((d : Int) + 1) ∧ Hid (I wr))
  case atStart => exact ⟨a, Nat.le_refl _, ha, rfl, rfl, H⟩
  case round =>
    obtain ⟨d, hd, hdn, rfl, rfl, HR⟩ := hrel
    by_cases hpb : d + 1 < b
    · have hd1 : decide ((d : Int) + 1 < (b : Int)) = true := decide_eq_true (by omega)
      go_wp2_with fail
      generalize wr = wO at *
      go_loopg [7] (d + 1 - a) (fun q j wy => ∃ z : Nat, a ≤ z ∧ z ≤ d + 1 ∧ q = z - a ∧ j = .int .i64 (z : Int) ∧ Hid (I wy))
      case atStart => exact ⟨d + 1, by omega, by omega, rfl, by go_num, HR⟩
      case round =>
        obtain ⟨z, hz, hzd, rfl, rfl, HY⟩ := hrel
        by_cases hza : a < z
        · go_wp2_with (first | (go_at_call 45; refine (HI.out.less _ z (z - 1) _ _ HY.out (by omega) (by omega) (by omega) (by omega)).mono ?_; rintro e w2 ⟨⟨r, rfl⟩, h2⟩; have H2 := Lib.hid h2; clear h2) | (go_at_call 46; refine (HI.out.swap _ z (z - 1) _ _ H2.out (by omega) (by omega) (by omega) (by omega)).mono ?_; rintro e w3 ⟨rfl, h3⟩; have H3 := Lib.hid h3; clear h3))
          · go_roundg (z - 1 - a)
            case rel => exact ⟨z - 1, by omega, by omega, rfl, by rw [show (z : Int) - 1 = ((z - 1 : Nat) : Int) by omega], H3⟩
            case measure => omega
          · go_roundg (b - (d + 1))
            case rel => exact ⟨d + 1, by omega, by omega, rfl, by go_num, H2⟩
            case measure => omega
        · go_wp2_with fail
          go_roundg (b - (d + 1))
          case rel => exact ⟨d + 1, by omega, by omega, rfl, by go_num, HY⟩
          case measure => omega
    · go_wp2_with fail
      go_end0
      exact ⟨rfl, HR.out⟩
end Go.Proofs.Ytippmlajjkdblaa
