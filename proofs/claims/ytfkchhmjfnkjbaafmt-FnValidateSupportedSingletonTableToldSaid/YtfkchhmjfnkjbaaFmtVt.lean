/- symMerge over messages without locations. -/
import Derived.Test.YtfkchhmjfnkjbaaFmtVs
namespace Go.Proofs.YtfkchhmjfnkjbaaFmt
open Go.RowKit
set_option linter.unusedVariables false
set_option linter.unusedSimpArgs false
set_option maxRecDepth 100000 in
set_option maxHeartbeats 4000000 in
theorem sym1 (g n c a b : Nat) (w : World) (h : NilRow w g n) (hab : a + 1 < b) (hb : b ≤ n) (hn : n ≤ 1048576) :
    Calls Tryf.prog 34 #[.iface 47 (.slice (some ⟨g, 0, none⟩) n c), .int .i64 a, .int .i64 ((a : Int) + 1), .int .i64 b] w fun e w' => e = .returned (.tuple #[]) ∧ Below w.heap.size w w' := by
  have H := Lib.hid h
  have hm := fun w => meth (some ⟨g, 0, none⟩) n c w
  clear h
  have e1 : ((a : Int) + 1 - (a : Int) == 1) = true := by rw [show (a : Int) + 1 - (a : Int) = 1 by omega]; rfl
  go_enter Tryf.func34, Tryf.ntmps34
  go_wp2_with fail
  go_loopg [8, 9] (b - a) (fun q i j wr => ∃ y : Nat, a + 1 ≤ y ∧ y ≤ b ∧ q = y - a ∧ i = .int .i64 ((a : Int) + 1) ∧ j = .int .i64 y ∧ Hid (Below w.heap.size w wr))
  case atStart => exact ⟨b, by omega, Nat.le_refl _, rfl, rfl, rfl, Lib.hid (Below.refl _ _)⟩
  case round =>
    obtain ⟨y, hy, hyb, rfl, rfl, rfl, HB⟩ := hrel
    by_cases hlt : a + 1 < y
    · have HR := Lib.hid (H.out.below HB.out)
      go_wp2_with (go_at_call 71; refine (lessX g n c ((a + 1 + y) / 2) a _ _ _ HR.out (by omega) (by omega) (by omega) (by omega) hn).mono ?_; rintro e w2 ⟨rfl, hb2⟩; have HB2 := Lib.hid hb2; clear hb2)
      go_roundg ((a + 1 + y) / 2 - a)
      case rel => exact ⟨(a + 1 + y) / 2, by omega, by omega, rfl, rfl, by rw [show ((a : Int) + 1 + (y : Int)) / 2 = (((a + 1 + y) / 2 : Nat) : Int) by omega], Lib.hid (HB.out.trans (HB2.out.mono HB.out.size))⟩
      case measure => omega
    · have hyy : y = a + 1 := by omega
      subst hyy
      go_wp2_with fail
      go_loopg [11] 0 (fun q k wy => q = 0 ∧ k = .int .i64 a ∧ wy = wr)
      case atStart => exact ⟨rfl, rfl, rfl⟩
      case round =>
        obtain ⟨rfl, rfl, rfl⟩ := hrel
        go_wp2_with fail
        refine bodyPost_ret (results_none rfl _ _ _) rfl ?_
        exact ⟨rfl, HB.out⟩
set_option maxRecDepth 100000 in
set_option maxHeartbeats 4000000 in
theorem sym2 (g n c a m : Nat) (w : World) (h : NilRow w g n) (ham : a + 2 ≤ m) (hb : m + 1 ≤ n) (hn : n ≤ 1048576) :
    Calls Tryf.prog 34 #[.iface 47 (.slice (some ⟨g, 0, none⟩) n c), .int .i64 a, .int .i64 m, .int .i64 ((m : Int) + 1)] w fun e w' => e = .returned (.tuple #[]) ∧ Below w.heap.size w w' := by
  have H := Lib.hid h
  have hm := fun w => meth (some ⟨g, 0, none⟩) n c w
  clear h
  have e0 : ((m : Int) - (a : Int) == 1) = false := by
    rw [beq_eq_false_iff_ne]
    omega
  have e1 : ((m : Int) + 1 - (m : Int) == 1) = true := by rw [show (m : Int) + 1 - (m : Int) = 1 by omega]; rfl
  go_enter Tryf.func34, Tryf.ntmps34
  go_wp2_with fail
  go_loopg [12, 13] (m - a) (fun q i j wr => ∃ y : Nat, a ≤ y ∧ y ≤ m ∧ q = m - y ∧ i = .int .i64 y ∧ j = .int .i64 m ∧ Hid (Below w.heap.size w wr))
  case atStart => exact ⟨a, Nat.le_refl _, by omega, rfl, rfl, rfl, Lib.hid (Below.refl _ _)⟩
  case round =>
    obtain ⟨y, hy, hym, rfl, rfl, rfl, HB⟩ := hrel
    by_cases hlt : y < m
    · have HR := Lib.hid (H.out.below HB.out)
      go_wp2_with (go_at_call 71; refine (lessX g n c m ((y + m) / 2) _ _ _ HR.out (by omega) (by omega) (by omega) (by omega) hn).mono ?_; rintro e w2 ⟨rfl, hb2⟩; have HB2 := Lib.hid hb2; clear hb2)
      go_roundg (m - ((y + m) / 2 + 1))
      case rel => exact ⟨(y + m) / 2 + 1, by omega, by omega, rfl, by rw [show ((y : Int) + (m : Int)) / 2 + 1 = (((y + m) / 2 + 1 : Nat) : Int) by omega], rfl, Lib.hid (HB.out.trans (HB2.out.mono HB.out.size))⟩
      case measure => omega
    · have hyy : y = m := by omega
      subst hyy
      go_wp2_with fail
      go_loopg [15] 0 (fun q k wy => q = 0 ∧ k = .int .i64 y ∧ wy = wr)
      case atStart => exact ⟨rfl, rfl, rfl⟩
      case round =>
        obtain ⟨rfl, rfl, rfl⟩ := hrel
        go_wp2_with fail
        refine bodyPost_ret (results_none rfl _ _ _) rfl ?_
        exact ⟨rfl, HB.out⟩
end Go.Proofs.YtfkchhmjfnkjbaaFmt
