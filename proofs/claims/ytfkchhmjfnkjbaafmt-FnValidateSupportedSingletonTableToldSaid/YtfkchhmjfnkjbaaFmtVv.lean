/- stable, Stable, over messages without locations. -/
import Derived.Test.YtfkchhmjfnkjbaaFmtVu
namespace Go.Proofs.YtfkchhmjfnkjbaaFmt
open Go.RowKit
set_option linter.unusedVariables false
set_option linter.unusedSimpArgs false
theorem symMerge (g n c : Nat) (hn : n ≤ 1048576) : ∀ (k a m b : Nat) (x y z : Int) (w : World), NilRow w g n → b - a ≤ k → a < m → m < b → b ≤ n → x = a → y = m → z = b →
    Calls Tryf.prog 34 #[.iface 47 (.slice (some ⟨g, 0, none⟩) n c), .int .i64 x, .int .i64 y, .int .i64 z] w fun e w' => e = .returned (.tuple #[]) ∧ Below w.heap.size w w'
  | 0, a, m, b, x, y, z, w, h, hk, h1, h2, hb, hx, hy, hz => by omega
  | k + 1, a, m, b, x, y, z, w, h, hk, h1, h2, hb, hx, hy, hz => by
    subst hx hz
    by_cases c1 : m = a + 1
    · rw [show y = (a : Int) + 1 by omega]
      exact sym1 g n c a b w h (by omega) hb hn
    · by_cases c2 : b = m + 1
      · subst hy c2
        rw [show ((m + 1 : Nat) : Int) = (m : Int) + 1 by omega]
        exact sym2 g n c a m w h (by omega) hb hn
      · subst hy
        exact sym3 g n c a m b w h (by omega) (by omega) hb hn fun a' m' b' x y z w h hl h1 h2 hb hx hy hz => symMerge g n c hn k a' m' b' x y z w h (by omega) h1 h2 hb hx hy hz
theorem insertionX (g n c a b : Nat) (x y : Int) (w : World) (h : NilRow w g n) (hx : x = a) (hy : y = b) (hb : b ≤ n) (hn : n ≤ 1048576) (ha : a ≤ n) :
    Calls Tryf.prog 33 #[.iface 47 (.slice (some ⟨g, 0, none⟩) n c), .int .i64 x, .int .i64 y] w fun e w' => e = .returned (.tuple #[]) ∧ Below w.heap.size w w' := by
  subst hx hy
  exact insertion g n c a b w h hb hn ha
set_option maxRecDepth 100000 in
set_option maxHeartbeats 4000000 in
theorem stable (g n c : Nat) (w : World) (h : NilRow w g n) (hn : n ≤ 1048576) :
    Calls Tryf.prog 23 #[.iface 47 (.slice (some ⟨g, 0, none⟩) n c), .int .i64 n] w fun e w' => e = .returned (.tuple #[]) ∧ Below w.heap.size w w' := by
  have H := Lib.hid h
  clear h
  go_enter Tryf.func23, Tryf.ntmps23
  go_wp2_with fail
  go_loopg [5, 6] n (fun q i j wr => ∃ p : Nat, p ≤ n ∧ q = n - p ∧ i = .int .i64 p ∧ j = .int .i64 ((p : Int) + 20) ∧ Hid (Below w.heap.size w wr))
  case atStart => exact ⟨0, Nat.zero_le _, rfl, rfl, rfl, Lib.hid (Below.refl _ _)⟩
  case round =>
    obtain ⟨p, hp, rfl, rfl, rfl, HB⟩ := hrel
    have HR := Lib.hid (H.out.below HB.out)
    by_cases hlt : p + 20 ≤ n
    · go_wp2_with (go_at_call 33; refine (insertionX g n c p (p + 20) _ _ _ HR.out (by omega) (by omega) hlt hn (by omega)).mono ?_; rintro e w2 ⟨rfl, hb2⟩; have HB2 := Lib.hid hb2; clear hb2)
      go_roundg (n - (p + 20))
      case rel => exact ⟨p + 20, hlt, rfl, by rw [show (p : Int) + 20 = ((p + 20 : Nat) : Int) by omega], by rw [show (p : Int) + 20 + 20 = ((p + 20 : Nat) : Int) + 20 by omega], Lib.hid (HB.out.trans (HB2.out.mono HB.out.size))⟩
      case measure => omega
    · go_wp2_with (go_at_call 33; refine (insertionX g n c p n _ _ _ HR.out (by omega) (by omega) (by omega) hn (by omega)).mono ?_; rintro e w2 ⟨rfl, hb2⟩; have HB2 := Lib.hid hb2; clear hb2)
      have HB3 := Lib.hid (HB.out.trans (HB2.out.mono HB.out.size))
      go_loopg [4, 5, 6, 7] (n - 20) (fun q s i j m wr => ∃ z : Nat, 1 ≤ z ∧ z ≤ 2097152 ∧ q = n - z ∧ s = .int .i64 z ∧ Hid (Below w.heap.size w wr))
      case atStart => exact ⟨20, by omega, by omega, rfl, rfl, HB3⟩
      case round =>
        obtain ⟨z, hz1, hz2, rfl, rfl, HBz⟩ := hrel
        by_cases hzn : z < n
        · go_wp2_with fail
          have HRz := Lib.hid (H.out.below HBz.out)
          generalize wr = wO at *
          go_loopg [5, 6] n (fun q i j wy => ∃ p : Nat, p ≤ n ∧ q = n - p ∧ i = .int .i64 p ∧ j = .int .i64 ((p : Int) + 2 * (z : Int)) ∧ Hid (Below wO.heap.size wO wy))
          case atStart => exact ⟨0, Nat.zero_le _, rfl, rfl, by rw [show ((0 : Nat) : Int) + 2 * (z : Int) = 2 * (z : Int) by omega], Lib.hid (Below.refl _ _)⟩
          case round =>
            obtain ⟨p2, hp2, rfl, rfl, rfl, HBY⟩ := hrel
            have HRy := Lib.hid (HRz.out.below HBY.out)
            by_cases hle : p2 + 2 * z ≤ n
            · go_wp2_with (go_at_call 34; refine (symMerge g n c hn n p2 (p2 + z) (p2 + 2 * z) _ _ _ _ HRy.out (by omega) (by omega) (by omega) hle (by omega) (by omega) (by omega)).mono ?_; rintro e w2 ⟨rfl, hb2⟩; have HB2 := Lib.hid hb2; clear hb2)
              go_roundg (n - (p2 + 2 * z))
              case rel => exact ⟨p2 + 2 * z, hle, rfl, by rw [show (p2 : Int) + 2 * (z : Int) = ((p2 + 2 * z : Nat) : Int) by omega], by rw [show (p2 : Int) + 2 * (z : Int) + 2 * (z : Int) = ((p2 + 2 * z : Nat) : Int) + 2 * (z : Int) by omega], Lib.hid (HBY.out.trans (HB2.out.mono HBY.out.size))⟩
              case measure => omega
            · by_cases hml : p2 + z < n
              · go_wp2_with (go_at_call 34; refine (symMerge g n c hn n p2 (p2 + z) n _ _ _ _ HRy.out (by omega) (by omega) hml (Nat.le_refl _) (by omega) (by omega) (by omega)).mono ?_; rintro e w2 ⟨rfl, hb2⟩; have HB2 := Lib.hid hb2; clear hb2)
                go_roundg (n - z * 2)
                case rel => exact ⟨z * 2, by omega, by omega, rfl, by rw [show (z : Int) * 2 = ((z * 2 : Nat) : Int) by omega], Lib.hid ((HBz.out.trans (HBY.out.mono HBz.out.size)).trans (HB2.out.mono (Nat.le_trans HBz.out.size HBY.out.size)))⟩
                case measure => omega
              · go_wp2_with fail
                go_roundg (n - z * 2)
                case rel => exact ⟨z * 2, by omega, by omega, rfl, by rw [show (z : Int) * 2 = ((z * 2 : Nat) : Int) by omega], Lib.hid (HBz.out.trans (HBY.out.mono HBz.out.size))⟩
                case measure => omega
        · go_wp2_with fail
          go_end0
          exact ⟨rfl, HBz.out⟩
set_option maxRecDepth 100000 in
set_option maxHeartbeats 4000000 in
theorem sortStable (g n c : Nat) (w : World) (h : NilRow w g n) (hn : n ≤ 1048576) : Calls Tryf.prog 18 #[.iface 47 (.slice (some ⟨g, 0, none⟩) n c)] w fun e w' => e = .returned (.tuple #[]) ∧ Below w.heap.size w w' := by
  have hm := fun w => methLen (some ⟨g, 0, none⟩) n c w
  have H := Lib.hid h
  clear h
  go_enter Tryf.func18, Tryf.ntmps18
  go_wp2_with (first | (go_at_call 23; refine (stable g n c _ H.out hn).mono ?_; rintro e w' ⟨rfl, hb⟩) | (go_at_call 70; go_in))
  go_end0
  exact ⟨rfl, hb⟩
theorem insertion0 (v : Value) (n : Nat) (hn : n ≤ 1) (w : World) : Calls Tryf.prog 33 #[v, .int .i64 0, .int .i64 n] w fun e w' => e = .returned (.tuple #[]) ∧ w' = w := by
  go_enter Tryf.func33, Tryf.ntmps33
  go_wp2
  go_loopg [6] 0 (fun g z wr => wr = w ∧ z = .int .i64 1)
  case atStart => exact ⟨rfl, rfl⟩
  case round =>
    obtain ⟨rfl, rfl⟩ := hrel
    go_wp2
    go_end0
    exact ⟨rfl, rfl⟩
theorem stable0 (v : Value) (n : Nat) (hn : n ≤ 1) (w : World) : Calls Tryf.prog 23 #[v, .int .i64 n] w fun e w' => e = .returned (.tuple #[]) ∧ w' = w := by
  go_enter Tryf.func23, Tryf.ntmps23
  go_wp2_with fail
  go_loopg [5, 6] 0 (fun g a b wr => wr = w ∧ a = .int .i64 0 ∧ b = .int .i64 20)
  case atStart => exact ⟨rfl, rfl, rfl⟩
  case round =>
    obtain ⟨rfl, rfl, rfl⟩ := hrel
    go_wp2_with (go_at_call 33; refine (insertion0 _ n hn _).mono ?_; rintro e w' ⟨rfl, rfl⟩)
    go_loopg [4, 5, 6, 7] 0 (fun g a b c d wr => w' = wr ∧ a = .int .i64 20)
    case atStart => exact ⟨rfl, rfl⟩
    case round =>
      obtain ⟨rfl, rfl⟩ := hrel
      go_wp2_with fail
      go_end0
      exact ⟨rfl, rfl⟩
set_option maxRecDepth 100000 in
set_option maxHeartbeats 4000000 in
theorem sortStable0 (A : Option Addr) (n c : Nat) (hn : n ≤ 1) (w : World) : Calls Tryf.prog 18 #[.iface 47 (.slice A n c)] w fun e w' => e = .returned (.tuple #[]) ∧ w' = w := by
  have hm : ∀ w, (method 240 47 (.slice A n c) "Len").run Tryf.prog w = .ok (70, .slice A n c) w := fun _ => by kernel_rfl
  go_enter Tryf.func18, Tryf.ntmps18
  go_wp2_with (first | (go_at_call 23; refine (stable0 _ n hn _).mono ?_; rintro e w' ⟨rfl, rfl⟩) | (go_at_call 70; go_in))
  go_end0
  exact ⟨rfl, rfl⟩
end Go.Proofs.YtfkchhmjfnkjbaaFmt
