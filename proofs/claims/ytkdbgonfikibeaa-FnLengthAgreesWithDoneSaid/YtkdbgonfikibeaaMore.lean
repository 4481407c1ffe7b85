/- The walks of the Joiner's Done and of the helpers of its laws. -/
import Derived.Test.YtkdbgonfikibeaaWalks
import Derived.Deep.RegionWith
namespace Go.Proofs.Ytkdbgonfikibeaa
open Go.RowKit
set_option linter.unusedVariables false
set_option linter.unusedSimpArgs false

/-- Which pieces are added as bytes. -/
def kap (m : Nat) (kf : Nat → Bool) : Nat → Bool := fun i => decide (i < m) && kf i

def Tup (R : World → Prop) (e : Ending) (w' : World) : Prop := e = .returned (.tuple #[]) ∧ R w'

set_option maxHeartbeats 1000000 in
theorem build (jb base : Nat) (A : Option Addr) (n c : Nat) (f : Nat → ByteArray) (A' : Option Addr) (m d : Nat) (kf : Nat → Bool) (w : World) (h : RowF w jb A n (fun i => .string (f i))) (h' : RowF w jb A' m (fun i => .bool (kf i)))
    (hn : n ≤ 1048576) (hm : m ≤ 1048576) (ht : tot f n ≤ 1048576) (hJ : J w jb base f (kap m kf) 0) :
    Calls Try.prog 7 #[.pointer (some ⟨jb, 0, none⟩), .slice A n c, .slice A' m d] w (Tup fun w' => J w' jb base f (kap m kf) n ∧ Below jb w w') := by
  have H := Lib.hid h
  have H' := Lib.hid h'
  have HJ := Lib.hid hJ
  clear h h' hJ
  go_enter Try.func7, Try.ntmps7
  go_wp2_with fail
  go_loopg [6] n (fun g i wr => ∃ k : Nat, k ≤ n ∧ g = n - k ∧ i = .int .i64 k ∧ J wr jb base f (kap m kf) k ∧ Below jb w wr)
  case atStart => exact ⟨0, Nat.zero_le _, rfl, rfl, HJ.out, Below.refl _ _⟩
  case round =>
    obtain ⟨k, hk, rfl, rfl, hJ, hb⟩ := hrel
    clear HJ
    by_cases hlt : k < n
    · obtain ⟨b, o, rfl, hbb, hc⟩ := H.out.at_ hlt
      have hc' : wr.cell? ⟨b, o + k, none⟩ = some (.string (f k)) := (hb.cell (p := ⟨b, o + k, none⟩) hbb).trans hc
      have ht1 := tot_at f hlt
      clear hc
      by_cases hm1 : k < m
      · obtain ⟨b2, o2, rfl, hbb2, hc2⟩ := H'.out.at_ hm1
        have hc2' : wr.cell? ⟨b2, o2 + k, none⟩ = some (.bool (kf k)) := (hb.cell (p := ⟨b2, o2 + k, none⟩) hbb2).trans hc2
        clear hc2
        have HJ := Lib.hid hJ
        have HB := Lib.hid hb
        clear hJ hb
        cases hkf : kf k
        · have hκ := Lib.hid (show kap m kf k = false by simp [kap, hkf])
          rw [hkf] at hc2'
          clear hkf
          go_wp2_with fail
          refine (addString jb base k f _ hκ.out (by omega) (by omega) _ HJ.out).mono ?_
          rintro e wx ⟨rfl, h1, h2⟩
          have H1 := Lib.hid h1
          have H2 := Lib.hid h2
          clear h1 h2
          go_wp2_with fail
          go_roundg (n - (k + 1))
          case rel => exact ⟨k + 1, by omega, rfl, by go_num, H1.out, HB.out.trans H2.out⟩
          case measure => omega
        · have hκ := Lib.hid (show kap m kf k = true by simp [kap, hkf, hm1])
          rw [hkf] at hc2'
          clear hkf
          have hcv := fun w => run_bytes_of_string (P := Try.prog) w 9 34 5 (f k) Try.underlying9 Try.underlying34 Try.underlying5
          go_wp2_with fail
          clear hcv
          have hjl : jb ≤ wr.heap.size := by
            obtain ⟨_, _, _, _, _, _, _, h⟩ := HJ.out
            exact Nat.le_of_lt h.row.lt
          refine (addBytes jb base k f _ _ _ hκ.out (by omega) (by omega) _ (by exact HJ.out.keep (fun g hg => Below.heap_alloc _ _ _ hg) (by simp)) (by exact fun hs => ⟨wr.heap.size, _, _, rfl, heap_alloc_new _ _, fun q hq => bt_row _ _ q hq⟩)).mono ?_
          rintro e wx ⟨rfl, h1, h2⟩
          have H1 := Lib.hid h1
          have H2 : Hid (Below jb wr wx) := Lib.hid ((((Below.refl jb wr).alloc hjl _).drew).trans h2)
          clear h1 h2
          go_wp2_with fail
          go_roundg (n - (k + 1))
          case rel => exact ⟨k + 1, by omega, rfl, by go_num, H1.out, HB.out.trans H2.out⟩
          case measure => omega
      · have HJ := Lib.hid hJ
        have HB := Lib.hid hb
        clear hJ hb
        have hκ := Lib.hid (show kap m kf k = false by simp [kap, hm1])
        go_wp2_with fail
        refine (addString jb base k f _ hκ.out (by omega) (by omega) _ HJ.out).mono ?_
        rintro e wx ⟨rfl, h1, h2⟩
        have H1 := Lib.hid h1
        have H2 := Lib.hid h2
        clear h1 h2
        go_wp2_with fail
        go_roundg (n - (k + 1))
        case rel => exact ⟨k + 1, by omega, rfl, by go_num, H1.out, HB.out.trans H2.out⟩
        case measure => omega
    · have hkn : k = n := by omega
      subst hkn
      have HJ := Lib.hid hJ
      have HB := Lib.hid hb
      clear hJ hb
      go_wp2_with fail
      go_end0
      exact ⟨rfl, HJ.out, HB.out⟩
theorem equalT (A : Option Addr) (n c : Nat) (A' : Option Addr) (c' : Nat) (v : Nat → Int) (B B' : Nat) (w : World) (h : RowF w B A n (fun i => .int .u8 (v i))) (h' : RowF w B' A' n (fun i => .int .u8 (v i))) (hn : n ≤ 1048576) :
    Calls Try.prog 8 #[.slice A n c, .slice A' n c'] w fun e w' => e = .returned (.bool true) ∧ Below w.heap.size w w' := by
  have H := Lib.hid h
  have H' := Lib.hid h'
  clear h h'
  go_enter Try.func8, Try.ntmps8
  go_wp2_with fail
  go_loopg [5] n (fun g i wr => ∃ (k q : Nat), k ≤ n ∧ g = n - k ∧ i = .int .i64 k ∧ wr = w.drewN q)
  case atStart => exact ⟨0, 0, Nat.zero_le _, rfl, rfl, rfl⟩
  case round =>
    obtain ⟨k, q, hk, rfl, rfl, rfl⟩ := hrel
    by_cases hlt : k < n
    · obtain ⟨b, o, rfl, hbb, hc⟩ := H.out.at_ hlt
      obtain ⟨b', o', rfl, hbb', hc'⟩ := H'.out.at_ hlt
      generalize hw : w.drewN q = w0
      have hc1 : w0.cell? ⟨b, o + k, none⟩ = some (.int .u8 (v k)) := by rw [← hw]; exact hc
      have hc2 : w0.cell? ⟨b', o' + k, none⟩ = some (.int .u8 (v k)) := by rw [← hw]; exact hc'
      have HW := Lib.hid hw
      clear hw hc hc'
      have hkz : (k : Int) < (n : Int) := by omega
      go_wp2_with fail
      go_quiet (fail)
      go_wp2_with fail
      go_roundg (n - (k + 1))
      case rel => exact ⟨k + 1, _, by omega, rfl, by go_num, by rw [← HW.out, World.drewN_drewN]⟩
      case measure => omega
    · go_wp2_with fail
      go_ret
      exact ⟨rfl, below_drewN' (Below.refl _ _) _⟩
def AnyBool (w : World) (e : Ending) (w' : World) : Prop := ∃ b : Bool, e = .returned (.bool b) ∧ w = w'
theorem tooBig (A : Option Addr) (n c : Nat) (f : Nat → ByteArray) (A' : Option Addr) (m d : Nat) (w : World) (h : InStrs w A n c f) (hn : n + tot f n + m ≤ 1048576) : Calls Try.prog 6 #[.slice A n c, .slice A' m d, .int .i64 1048576] w (AnyBool w) := by
  have H := Lib.hid h
  clear h
  go_enter Try.func6, Try.ntmps6
  by_cases h1 : n ≤ 65536
  · by_cases h2 : m ≤ 65536
    · by_cases h3 : m + 16 * n ≤ 1048576
      · go_wp2_with fail
        go_loopg [7, 8] n (fun g s z wr => w = wr ∧ ∃ k T : Nat, k ≤ n ∧ g = n - k ∧ s = .int .i64 (T : Int) ∧ T ≤ 1048576 ∧ z = .int .i64 k)
        case atStart => exact ⟨rfl, 0, m + 16 * n, Nat.zero_le _, rfl, by go_num, h3, rfl⟩
        case round =>
          obtain ⟨rfl, k, T, hk, rfl, rfl, hT, rfl⟩ := hrel
          by_cases hlt : k < n
          · obtain ⟨b, o, rfl, hb, hc⟩ := H.out.row.at_ hlt
            have ht := tot_at f hlt
            have hx : (f k).size ≤ 1048576 := by omega
            by_cases g2 : T + (f k).size ≤ 1048576
            · go_wp2_with fail
              go_roundg (n - (k + 1))
              case rel => exact ⟨rfl, k + 1, T + (f k).size, by omega, rfl, by go_num, g2, by go_num⟩
              case measure => omega
            · go_wp2_with fail
              go_ret
              exact ⟨_, rfl, rfl⟩
          · go_wp2_with fail
            go_ret
            exact ⟨_, rfl, rfl⟩
      · go_wp2_with fail
        go_ret
        exact ⟨_, rfl, rfl⟩
    · go_wp2_with fail
      go_ret
      exact ⟨_, rfl, rfl⟩
  · go_wp2_with fail
    go_ret
    exact ⟨_, rfl, rfl⟩
end Go.Proofs.Ytkdbgonfikibeaa
