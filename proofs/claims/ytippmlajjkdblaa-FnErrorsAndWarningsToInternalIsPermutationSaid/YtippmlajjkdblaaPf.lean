/- symMerge (printed by genPe.py). -/
import Derived.Test.YtippmlajjkdblaaPe
namespace Go.Proofs.Ytippmlajjkdblaa
open Go.RowKit
set_option linter.unusedVariables false
set_option linter.unusedSimpArgs false
set_option maxRecDepth 100000 in
set_option maxHeartbeats 4000000 in
theorem sym3 (I : World → Prop) (g n c a m b : Nat) (hI : SI I g n c) (w : World) (h : I w) (ham : a + 2 ≤ m) (hmb : m + 2 ≤ b) (hb : b ≤ n) (hn : n ≤ 1048576)
    (hS : ∀ (a' m' b' : Nat) (x y z : Int) (w : World), I w → b' - a' < b - a → a' < m' → m' < b' → b' ≤ n → x = a' → y = m' → z = b' →
      Calls Try.prog 22 #[.iface 55 (.slice (some ⟨g, 0, none⟩) n c), .int .i64 x, .int .i64 y, .int .i64 z] w fun e w' => e = .returned (.tuple #[]) ∧ I w') :
    Calls Try.prog 22 #[.iface 55 (.slice (some ⟨g, 0, none⟩) n c), .int .i64 a, .int .i64 m, .int .i64 b] w fun e w' => e = .returned (.tuple #[]) ∧ I w' := by
  have H := Lib.hid h
  have HI := Lib.hid hI
  have hm := fun w => methL (some ⟨g, 0, none⟩) n c w
  have hms := fun w => methS (some ⟨g, 0, none⟩) n c w
  clear h hI
  have HS := Lib.hid hS
  clear hS
  have e0 : ((m : Int) - (a : Int) == 1) = false := by
    rw [beq_eq_false_iff_ne]
    omega
  have e1 : ((b : Int) - (m : Int) == 1) = false := by
    rw [beq_eq_false_iff_ne]
    omega
  obtain ⟨d, hd, hd1, hd2⟩ : ∃ d : Nat, ((a : Int) + (b : Int)) / 2 = (d : Int) ∧ 2 * d ≤ a + b ∧ a + b ≤ 2 * d + 1 := ⟨(a + b) / 2, by omega, by omega, by omega⟩
  by_cases hdm : d < m
  · go_enter Try.func22, Try.ntmps22
    go_wp2_with fail
    go_loopg [18, 19] ((d : Int) - ((d : Int) + (m : Int) - (b : Int))).toNat (fun q i j wr => ∃ x y : Int, ((d : Int) + (m : Int) - (b : Int)) ≤ x ∧ x ≤ y ∧ y ≤ (d : Int) ∧ q = (y - x).toNat ∧ i = .int .i64 x ∧ j = .int .i64 y ∧ Hid (I wr))
    case atStart => exact ⟨_, _, Int.le_refl _, by omega, Int.le_refl _, by omega, rfl, rfl, H⟩
    case round =>
      obtain ⟨x, y, hx, hxy, hyd, rfl, rfl, rfl, HR⟩ := hrel
      have hx0 : 0 ≤ x := by omega
      by_cases hlt : x < y
      · go_wp2_with (go_at_call 45; refine (HI.out.less _ (((d : Int) + (m : Int) - 1 - (x + y) / 2).toNat) (((x + y) / 2).toNat) _ _ HR.out (by omega) (by omega) (by omega) (by omega)).mono ?_; rintro e w2 ⟨⟨r, rfl⟩, h2⟩; have H2 := Lib.hid h2; clear h2)
        · go_roundg (y - ((x + y) / 2 + 1)).toNat
          case rel => exact ⟨(x + y) / 2 + 1, y, by omega, by omega, by omega, rfl, rfl, rfl, H2⟩
          case measure => omega
        · go_roundg ((x + y) / 2 - x).toNat
          case rel => exact ⟨x, (x + y) / 2, by omega, by omega, by omega, rfl, rfl, rfl, H2⟩
          case measure => omega
      · have hxx : y = x := by omega
        subst hxx
        have hxn : ((y.toNat : Nat) : Int) = y := by omega
        go_wp2_with (first | (go_at_call 23; refine (rotate I g n c y.toNat m (d + m - y.toNat) _ _ _ HI.out _ HR.out (by omega) (by omega) (by omega) (by omega) (by omega) (by omega) hn).mono ?_; rintro e w3 ⟨rfl, h3⟩; have H3 := Lib.hid h3; clear h3) | (go_at_call_of 22 (a : Int); refine (HS.out a y.toNat d _ _ _ _ (by (first | exact H7.out | exact H5.out | exact H3.out | exact HR.out)) (by omega) (by omega) (by omega) (by omega) (by omega) (by omega) (by omega)).mono ?_; rintro e w5 ⟨rfl, h5⟩; have H5 := Lib.hid h5; clear h5) | (go_at_call_of 22 (b : Int); refine (HS.out d (d + m - y.toNat) b _ _ _ _ (by (first | exact H7.out | exact H5.out | exact H3.out | exact HR.out)) (by omega) (by omega) (by omega) (by omega) (by omega) (by omega) (by omega)).mono ?_; rintro e w7 ⟨rfl, h7⟩; have H7 := Lib.hid h7; clear h7))
        all_goals go_end0
        all_goals exact ⟨rfl, by (first | exact H7.out | exact H5.out | exact H3.out | exact HR.out)⟩
  · go_enter Try.func22, Try.ntmps22
    go_wp2_with fail
    go_loopg [18, 19] ((m : Int) - (a : Int)).toNat (fun q i j wr => ∃ x y : Int, (a : Int) ≤ x ∧ x ≤ y ∧ y ≤ (m : Int) ∧ q = (y - x).toNat ∧ i = .int .i64 x ∧ j = .int .i64 y ∧ Hid (I wr))
    case atStart => exact ⟨_, _, Int.le_refl _, by omega, Int.le_refl _, by omega, rfl, rfl, H⟩
    case round =>
      obtain ⟨x, y, hx, hxy, hyd, rfl, rfl, rfl, HR⟩ := hrel
      have hx0 : 0 ≤ x := by omega
      by_cases hlt : x < y
      · go_wp2_with (go_at_call 45; refine (HI.out.less _ (((d : Int) + (m : Int) - 1 - (x + y) / 2).toNat) (((x + y) / 2).toNat) _ _ HR.out (by omega) (by omega) (by omega) (by omega)).mono ?_; rintro e w2 ⟨⟨r, rfl⟩, h2⟩; have H2 := Lib.hid h2; clear h2)
        · go_roundg (y - ((x + y) / 2 + 1)).toNat
          case rel => exact ⟨(x + y) / 2 + 1, y, by omega, by omega, by omega, rfl, rfl, rfl, H2⟩
          case measure => omega
        · go_roundg ((x + y) / 2 - x).toNat
          case rel => exact ⟨x, (x + y) / 2, by omega, by omega, by omega, rfl, rfl, rfl, H2⟩
          case measure => omega
      · have hxx : y = x := by omega
        subst hxx
        have hxn : ((y.toNat : Nat) : Int) = y := by omega
        go_wp2_with (first | (go_at_call 23; refine (rotate I g n c y.toNat m (d + m - y.toNat) _ _ _ HI.out _ HR.out (by omega) (by omega) (by omega) (by omega) (by omega) (by omega) hn).mono ?_; rintro e w3 ⟨rfl, h3⟩; have H3 := Lib.hid h3; clear h3) | (go_at_call_of 22 (a : Int); refine (HS.out a y.toNat d _ _ _ _ (by (first | exact H7.out | exact H5.out | exact H3.out | exact HR.out)) (by omega) (by omega) (by omega) (by omega) (by omega) (by omega) (by omega)).mono ?_; rintro e w5 ⟨rfl, h5⟩; have H5 := Lib.hid h5; clear h5) | (go_at_call_of 22 (b : Int); refine (HS.out d (d + m - y.toNat) b _ _ _ _ (by (first | exact H7.out | exact H5.out | exact H3.out | exact HR.out)) (by omega) (by omega) (by omega) (by omega) (by omega) (by omega) (by omega)).mono ?_; rintro e w7 ⟨rfl, h7⟩; have H7 := Lib.hid h7; clear h7))
        all_goals go_end0
        all_goals exact ⟨rfl, by (first | exact H7.out | exact H5.out | exact H3.out | exact HR.out)⟩
theorem symMerge (I : World → Prop) (g n c : Nat) (hI : SI I g n c) (hn : n ≤ 1048576) : ∀ (k a m b : Nat) (x y z : Int) (w : World), I w → b - a ≤ k → a < m → m < b → b ≤ n → x = a → y = m → z = b →
    Calls Try.prog 22 #[.iface 55 (.slice (some ⟨g, 0, none⟩) n c), .int .i64 x, .int .i64 y, .int .i64 z] w fun e w' => e = .returned (.tuple #[]) ∧ I w'
  | 0, a, m, b, x, y, z, w, h, hk, h1, h2, hb, hx, hy, hz => by omega
  | k + 1, a, m, b, x, y, z, w, h, hk, h1, h2, hb, hx, hy, hz => by
    subst hx hz
    by_cases c1 : m = a + 1
    · rw [show y = (a : Int) + 1 by omega]
      exact sym1 I g n c a b hI w h (by omega) hb hn
    · by_cases c2 : b = m + 1
      · subst hy c2
        rw [show ((m + 1 : Nat) : Int) = (m : Int) + 1 by omega]
        exact sym2 I g n c a m hI w h (by omega) hb hn
      · subst hy
        exact sym3 I g n c a m b hI w h (by omega) (by omega) hb hn fun a' m' b' x y z w h hl h1 h2 hb hx hy hz => symMerge I g n c hI hn k a' m' b' x y z w h (by omega) h1 h2 hb hx hy hz
end Go.Proofs.Ytippmlajjkdblaa
