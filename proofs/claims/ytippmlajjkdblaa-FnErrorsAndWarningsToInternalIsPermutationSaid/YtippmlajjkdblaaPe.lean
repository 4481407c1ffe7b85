/- swapRange, rotate, symMerge with one element on a side (printed by genPe.py). -/
import Derived.Test.YtippmlajjkdblaaPd
namespace Go.Proofs.Ytippmlajjkdblaa
open Go.RowKit
set_option linter.unusedVariables false
set_option linter.unusedSimpArgs false
set_option maxRecDepth 100000 in
set_option maxHeartbeats 4000000 in
theorem swapRange (I : World → Prop) (g n c a b k : Nat) (x y z : Int) (hI : SI I g n c) (w : World) (h : I w) (hx : x = a) (hy : y = b) (hz : z = k) (ha : a + k ≤ n) (hb : b + k ≤ n) (hn : n ≤ 1048576) :
    Calls Try.prog 24 #[.iface 55 (.slice (some ⟨g, 0, none⟩) n c), .int .i64 x, .int .i64 y, .int .i64 z] w fun e w' => e = .returned (.tuple #[]) ∧ I w' := by
  subst hx hy hz
  have H := Lib.hid h
  have HI := Lib.hid hI
  have hm := fun w => methL (some ⟨g, 0, none⟩) n c w
  have hms := fun w => methS (some ⟨g, 0, none⟩) n c w
  clear h hI
  go_enter Try.func24, Try.ntmps24
  go_wp2_with fail
  go_loopg [8] k (fun q i wr => ∃ d : Nat, d ≤ k ∧ q = k - d ∧ i = .int .i64 (d : Int) ∧ Hid (I wr))
  case atStart => exact ⟨0, Nat.zero_le _, rfl, rfl, H⟩
  case round =>
    obtain ⟨d, hd, rfl, rfl, HR⟩ := hrel
    by_cases hlt : d < k
    · go_wp2_with (go_at_call 46; refine (HI.out.swap _ (a + d) (b + d) _ _ HR.out (by omega) (by omega) (by omega) (by omega)).mono ?_; rintro e w3 ⟨rfl, h3⟩; have H3 := Lib.hid h3; clear h3)
      go_roundg (k - (d + 1))
      case rel => exact ⟨d + 1, by omega, rfl, by go_num, H3⟩
      case measure => omega
    · go_wp2_with fail
      go_end0
      exact ⟨rfl, HR.out⟩
set_option maxRecDepth 100000 in
set_option maxHeartbeats 4000000 in
theorem rotate (I : World → Prop) (g n c a m b : Nat) (x y z : Int) (hI : SI I g n c) (w : World) (h : I w) (hx : x = a) (hy : y = m) (hz : z = b) (ham : a < m) (hmb : m < b) (hb : b ≤ n) (hn : n ≤ 1048576) :
    Calls Try.prog 23 #[.iface 55 (.slice (some ⟨g, 0, none⟩) n c), .int .i64 x, .int .i64 y, .int .i64 z] w fun e w' => e = .returned (.tuple #[]) ∧ I w' := by
  subst hx hy hz
  have H := Lib.hid h
  have HI := Lib.hid hI
  have hm := fun w => methL (some ⟨g, 0, none⟩) n c w
  have hms := fun w => methS (some ⟨g, 0, none⟩) n c w
  clear h hI
  go_enter Try.func23, Try.ntmps23
  go_wp2_with fail
  go_loopg [8, 9] (b - a) (fun q i j wr => ∃ x y : Nat, 0 < x ∧ x ≤ m - a ∧ 0 < y ∧ y ≤ b - m ∧ q = x + y ∧ i = .int .i64 (x : Int) ∧ j = .int .i64 (y : Int) ∧ Hid (I wr))
  case atStart => exact ⟨m - a, b - m, by omega, by omega, by omega, by omega, by omega, by rw [show (m : Int) - a = ((m - a : Nat) : Int) by omega], by rw [show (b : Int) - m = ((b - m : Nat) : Int) by omega], H⟩
  case round =>
    obtain ⟨x, y, hx0, hx, hy0, hy, rfl, rfl, rfl, HR⟩ := hrel
    by_cases hxy : x = y
    · subst hxy
      go_wp2_with (go_at_call 24; refine (swapRange I g n c (m - x) (m) (x) _ _ _ HI.out _ HR.out (by omega) (by omega) (by omega) (by omega) (by omega) hn).mono ?_; rintro e w3 ⟨rfl, h3⟩; have H3 := Lib.hid h3; clear h3)
      go_end0
      exact ⟨rfl, H3.out⟩
    · have hne : ((x : Int) != (y : Int)) = true := by
        rw [bne_iff_ne]
        omega
      by_cases hgt : y < x
      · go_wp2_with (go_at_call 24; refine (swapRange I g n c (m - x) (m) (y) _ _ _ HI.out _ HR.out (by omega) (by omega) (by omega) (by omega) (by omega) hn).mono ?_; rintro e w3 ⟨rfl, h3⟩; have H3 := Lib.hid h3; clear h3)
        go_roundg (x - y + y)
        case rel => exact ⟨x - y, y, by omega, by omega, by omega, by omega, by omega, by rw [show (x : Int) - y = ((x - y : Nat) : Int) by omega], rfl, H3⟩
        case measure => omega
      · go_wp2_with (go_at_call 24; refine (swapRange I g n c (m - x) (m + y - x) (x) _ _ _ HI.out _ HR.out (by omega) (by omega) (by omega) (by omega) (by omega) hn).mono ?_; rintro e w3 ⟨rfl, h3⟩; have H3 := Lib.hid h3; clear h3)
        go_roundg (x + (y - x))
        case rel => exact ⟨x, y - x, by omega, by omega, by omega, by omega, by omega, rfl, by rw [show (y : Int) - x = ((y - x : Nat) : Int) by omega], H3⟩
        case measure => omega
set_option maxRecDepth 100000 in
set_option maxHeartbeats 4000000 in
theorem sym1 (I : World → Prop) (g n c a b : Nat) (hI : SI I g n c) (w : World) (h : I w) (hab : a + 1 < b) (hb : b ≤ n) (hn : n ≤ 1048576) :
    Calls Try.prog 22 #[.iface 55 (.slice (some ⟨g, 0, none⟩) n c), .int .i64 a, .int .i64 ((a : Int) + 1), .int .i64 b] w fun e w' => e = .returned (.tuple #[]) ∧ I w' := by
  have H := Lib.hid h
  have HI := Lib.hid hI
  have hm := fun w => methL (some ⟨g, 0, none⟩) n c w
  have hms := fun w => methS (some ⟨g, 0, none⟩) n c w
  clear h hI
  have e1 : ((a : Int) + 1 - (a : Int) == 1) = true := by rw [show (a : Int) + 1 - (a : Int) = 1 by omega]; rfl
  go_enter Try.func22, Try.ntmps22
  go_wp2_with fail
  go_loopg [8, 9] (b - (a + 1)) (fun q i j wr => ∃ x y : Nat, a + 1 ≤ x ∧ x ≤ y ∧ y ≤ b ∧ q = y - x ∧ i = .int .i64 (x : Int) ∧ j = .int .i64 (y : Int) ∧ Hid (I wr))
  case atStart => exact ⟨a + 1, b, by omega, by omega, Nat.le_refl _, by omega, by go_num, rfl, H⟩
  case round =>
    obtain ⟨x, y, hx, hxy, hyb, rfl, rfl, rfl, HR⟩ := hrel
    by_cases hlt : x < y
    · go_wp2_with (go_at_call 45; refine (HI.out.less _ ((x + y) / 2) (a) _ _ HR.out (by omega) (by omega) (by omega) (by omega)).mono ?_; rintro e w2 ⟨⟨r, rfl⟩, h2⟩; have H2 := Lib.hid h2; clear h2)
      · go_roundg (y - ((x + y) / 2 + 1))
        case rel => exact ⟨(x + y) / 2 + 1, y, by omega, by omega, by omega, rfl, by rw [show ((x : Int) + (y : Int)) / 2 + 1 = (((x + y) / 2 + 1 : Nat) : Int) by omega], rfl, H2⟩
        case measure => omega
      · go_roundg ((x + y) / 2 - x)
        case rel => exact ⟨x, (x + y) / 2, by omega, by omega, by omega, rfl, rfl, by rw [show ((x : Int) + (y : Int)) / 2 = (((x + y) / 2 : Nat) : Int) by omega], H2⟩
        case measure => omega
    · have hyy : y = x := by omega
      subst hyy
      go_wp2_with fail
      generalize wr = wO at *
      go_loopg [11] (y - 1 - a) (fun q k wy => ∃ z : Nat, a ≤ z ∧ z ≤ y - 1 ∧ q = y - 1 - z ∧ k = .int .i64 (z : Int) ∧ Hid (I wy))
      case atStart => exact ⟨a, by omega, by omega, rfl, rfl, HR⟩
      case round =>
        obtain ⟨z, hz, hzy, rfl, rfl, HY⟩ := hrel
        by_cases hzl : z < y - 1
        · go_wp2_with (go_at_call 46; refine (HI.out.swap _ (z) (z + 1) _ _ HY.out (by omega) (by omega) (by omega) (by omega)).mono ?_; rintro e w3 ⟨rfl, h3⟩; have H3 := Lib.hid h3; clear h3)
          go_roundg (y - 1 - (z + 1))
          case rel => exact ⟨z + 1, by omega, by omega, rfl, by go_num, H3⟩
          case measure => omega
        · go_wp2_with fail
          refine bodyPost_ret (results_none rfl _ _ _) rfl ?_
          exact ⟨rfl, HY.out⟩
set_option maxRecDepth 100000 in
set_option maxHeartbeats 4000000 in
theorem sym2 (I : World → Prop) (g n c a m : Nat) (hI : SI I g n c) (w : World) (h : I w) (ham : a + 2 ≤ m) (hb : m + 1 ≤ n) (hn : n ≤ 1048576) :
    Calls Try.prog 22 #[.iface 55 (.slice (some ⟨g, 0, none⟩) n c), .int .i64 a, .int .i64 m, .int .i64 ((m : Int) + 1)] w fun e w' => e = .returned (.tuple #[]) ∧ I w' := by
  have H := Lib.hid h
  have HI := Lib.hid hI
  have hm := fun w => methL (some ⟨g, 0, none⟩) n c w
  have hms := fun w => methS (some ⟨g, 0, none⟩) n c w
  clear h hI
  have e0 : ((m : Int) - (a : Int) == 1) = false := by
    rw [beq_eq_false_iff_ne]
    omega
  have e1 : ((m : Int) + 1 - (m : Int) == 1) = true := by rw [show (m : Int) + 1 - (m : Int) = 1 by omega]; rfl
  go_enter Try.func22, Try.ntmps22
  go_wp2_with fail
  go_loopg [12, 13] (m - a) (fun q i j wr => ∃ x y : Nat, a ≤ x ∧ x ≤ y ∧ y ≤ m ∧ q = y - x ∧ i = .int .i64 (x : Int) ∧ j = .int .i64 (y : Int) ∧ Hid (I wr))
  case atStart => exact ⟨a, m, by omega, by omega, Nat.le_refl _, by omega, rfl, rfl, H⟩
  case round =>
    obtain ⟨x, y, hx, hxy, hyb, rfl, rfl, rfl, HR⟩ := hrel
    by_cases hlt : x < y
    · go_wp2_with (go_at_call 45; refine (HI.out.less _ (m) ((x + y) / 2) _ _ HR.out (by omega) (by omega) (by omega) (by omega)).mono ?_; rintro e w2 ⟨⟨r, rfl⟩, h2⟩; have H2 := Lib.hid h2; clear h2)
      · go_roundg (y - ((x + y) / 2 + 1))
        case rel => exact ⟨(x + y) / 2 + 1, y, by omega, by omega, by omega, rfl, by rw [show ((x : Int) + (y : Int)) / 2 + 1 = (((x + y) / 2 + 1 : Nat) : Int) by omega], rfl, H2⟩
        case measure => omega
      · go_roundg ((x + y) / 2 - x)
        case rel => exact ⟨x, (x + y) / 2, by omega, by omega, by omega, rfl, rfl, by rw [show ((x : Int) + (y : Int)) / 2 = (((x + y) / 2 : Nat) : Int) by omega], H2⟩
        case measure => omega
    · have hyy : y = x := by omega
      subst hyy
      go_wp2_with fail
      generalize wr = wO at *
      go_loopg [15] (m - y) (fun q k wy => ∃ z : Nat, y ≤ z ∧ z ≤ m ∧ q = z - y ∧ k = .int .i64 (z : Int) ∧ Hid (I wy))
      case atStart => exact ⟨m, by omega, by omega, rfl, rfl, HR⟩
      case round =>
        obtain ⟨z, hz, hzy, rfl, rfl, HY⟩ := hrel
        by_cases hzl : y < z
        · go_wp2_with (go_at_call 46; refine (HI.out.swap _ (z) (z - 1) _ _ HY.out (by omega) (by omega) (by omega) (by omega)).mono ?_; rintro e w3 ⟨rfl, h3⟩; have H3 := Lib.hid h3; clear h3)
          go_roundg (z - 1 - y)
          case rel => exact ⟨z - 1, by omega, by omega, rfl, by rw [show (z : Int) - 1 = ((z - 1 : Nat) : Int) by omega], H3⟩
          case measure => omega
        · go_wp2_with fail
          refine bodyPost_ret (results_none rfl _ _ _) rfl ?_
          exact ⟨rfl, HY.out⟩
end Go.Proofs.Ytippmlajjkdblaa
