/- symMerge, stable, Stable, over messages without locations. -/
import Derived.Test.YtfkchhmjfnkjbaaFmtVt
namespace Go.Proofs.YtfkchhmjfnkjbaaFmt
open Go.RowKit
set_option linter.unusedVariables false
set_option linter.unusedSimpArgs false
set_option maxRecDepth 100000 in
set_option maxHeartbeats 4000000 in
theorem sym3 (g n c a m b : Nat) (w : World) (h : NilRow w g n) (ham : a + 2 ≤ m) (hmb : m + 2 ≤ b) (hb : b ≤ n) (hn : n ≤ 1048576)
    (IH : ∀ (a' m' b' : Nat) (x y z : Int) (w : World), NilRow w g n → b' - a' < b - a → a' < m' → m' < b' → b' ≤ n → x = a' → y = m' → z = b' →
      Calls Tryf.prog 34 #[.iface 47 (.slice (some ⟨g, 0, none⟩) n c), .int .i64 x, .int .i64 y, .int .i64 z] w fun e w' => e = .returned (.tuple #[]) ∧ Below w.heap.size w w') :
    Calls Tryf.prog 34 #[.iface 47 (.slice (some ⟨g, 0, none⟩) n c), .int .i64 a, .int .i64 m, .int .i64 b] w fun e w' => e = .returned (.tuple #[]) ∧ Below w.heap.size w w' := by
  have H := Lib.hid h
  have HI := Lib.hid IH
  have hm := fun w => meth (some ⟨g, 0, none⟩) n c w
  clear h IH
  have e0 : ((m : Int) - (a : Int) == 1) = false := by
    rw [beq_eq_false_iff_ne]
    omega
  have e1 : ((b : Int) - (m : Int) == 1) = false := by
    rw [beq_eq_false_iff_ne]
    omega
  obtain ⟨d, hd, hd1, hd2⟩ : ∃ d : Nat, ((a : Int) + (b : Int)) / 2 = (d : Int) ∧ 2 * d ≤ a + b ∧ a + b ≤ 2 * d + 1 := ⟨(a + b) / 2, by omega, by omega, by omega⟩
  by_cases hdm : d < m
  · have hend : (d : Int) + (m : Int) - (d : Int) = (m : Int) := by omega
    go_enter Tryf.func34, Tryf.ntmps34
    go_wp2_with fail
    go_loopg [18, 19] ((d : Int) - ((d : Int) + (m : Int) - (b : Int))).toNat (fun q i j wr => ∃ x : Int, (d : Int) + (m : Int) - (b : Int) ≤ x ∧ x ≤ d ∧ q = ((d : Int) - x).toNat ∧ i = .int .i64 x ∧ j = .int .i64 d ∧ Hid (Below w.heap.size w wr))
    case atStart => exact ⟨_, Int.le_refl _, by omega, rfl, rfl, rfl, Lib.hid (Below.refl _ _)⟩
    case round =>
      obtain ⟨x, hx, hxd, rfl, rfl, rfl, HB⟩ := hrel
      have hx0 : 0 ≤ x := by omega
      by_cases hlt : x < d
      · have HR := Lib.hid (H.out.below HB.out)
        go_wp2_with (go_at_call 71; refine (lessX g n c ((d : Int) + (m : Int) - 1 - (x + (d : Int)) / 2).toNat ((x + (d : Int)) / 2).toNat _ _ _ HR.out (by omega) (by omega) (by omega) (by omega) hn).mono ?_; rintro e w2 ⟨rfl, hb2⟩; have HB2 := Lib.hid hb2; clear hb2)
        go_roundg ((d : Int) - ((x + (d : Int)) / 2 + 1)).toNat
        case rel => exact ⟨(x + (d : Int)) / 2 + 1, by omega, by omega, rfl, rfl, rfl, Lib.hid (HB.out.trans (HB2.out.mono HB.out.size))⟩
        case measure => omega
      · have hxx : x = d := by omega
        subst hxx
        have HR := Lib.hid (H.out.below HB.out)
        go_wp2_with (go_at_call 34; refine (HI.out d m b _ _ _ _ HR.out (by omega) (by omega) (by omega) (by omega) (by omega) (by omega) (by omega)).mono ?_; rintro e w2 ⟨rfl, hb2⟩; have HB2 := Lib.hid hb2; clear hb2)
        go_end0
        exact ⟨rfl, HB.out.trans (HB2.out.mono HB.out.size)⟩
  · have hend : (d : Int) + (m : Int) - (m : Int) = (d : Int) := by omega
    go_enter Tryf.func34, Tryf.ntmps34
    go_wp2_with fail
    go_loopg [18, 19] ((m : Int) - (a : Int)).toNat (fun q i j wr => ∃ x : Int, (a : Int) ≤ x ∧ x ≤ m ∧ q = ((m : Int) - x).toNat ∧ i = .int .i64 x ∧ j = .int .i64 m ∧ Hid (Below w.heap.size w wr))
    case atStart => exact ⟨_, Int.le_refl _, by omega, rfl, rfl, rfl, Lib.hid (Below.refl _ _)⟩
    case round =>
      obtain ⟨x, hx, hxd, rfl, rfl, rfl, HB⟩ := hrel
      have hx0 : 0 ≤ x := by omega
      by_cases hlt : x < m
      · have HR := Lib.hid (H.out.below HB.out)
        go_wp2_with (go_at_call 71; refine (lessX g n c ((d : Int) + (m : Int) - 1 - (x + (m : Int)) / 2).toNat ((x + (m : Int)) / 2).toNat _ _ _ HR.out (by omega) (by omega) (by omega) (by omega) hn).mono ?_; rintro e w2 ⟨rfl, hb2⟩; have HB2 := Lib.hid hb2; clear hb2)
        go_roundg ((m : Int) - ((x + (m : Int)) / 2 + 1)).toNat
        case rel => exact ⟨(x + (m : Int)) / 2 + 1, by omega, by omega, rfl, rfl, rfl, Lib.hid (HB.out.trans (HB2.out.mono HB.out.size))⟩
        case measure => omega
      · have hxx : x = m := by omega
        subst hxx
        have HR := Lib.hid (H.out.below HB.out)
        by_cases hmd : m < d
        · go_wp2_with (go_at_call 34; refine (HI.out a m d _ _ _ _ HR.out (by omega) (by omega) (by omega) (by omega) (by omega) (by omega) (by omega)).mono ?_; rintro e w2 ⟨rfl, hb2⟩; have HB2 := Lib.hid hb2; clear hb2)
          go_end0
          exact ⟨rfl, HB.out.trans (HB2.out.mono HB.out.size)⟩
        · go_wp2_with fail
          go_end0
          exact ⟨rfl, HB.out⟩
end Go.Proofs.YtfkchhmjfnkjbaaFmt
