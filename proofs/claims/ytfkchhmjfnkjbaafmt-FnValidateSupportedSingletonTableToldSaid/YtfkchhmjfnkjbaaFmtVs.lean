/- sort.Stable over messages without locations: nothing moves. -/
import Derived.Test.YtfkchhmjfnkjbaaFmtRows
import Derived.WalkKit
import Derived.WalkLawsBesides
import Derived.WalkSpells
import Derived.Outline
import Derived.OwnWalk
import Derived.Below
import Derived.Lib.Hide
import Derived.Lib.Strings
import Derived.Deep.QuietTactic
import Derived.BigQuiet
import Derived.Deep.LoopGhost
namespace Go.Proofs.YtfkchhmjfnkjbaaFmt
open Go.RowKit
set_option linter.unusedVariables false
set_option linter.unusedSimpArgs false
structure NilRow (w : World) (g n : Nat) : Prop where
  lt : g < w.heap.size
  c : ∀ i, i < n → ∃ t, w.cell? ⟨g, i * 8, none⟩ = some (.slice none 0 0) ∧ w.cell? ⟨g, i * 8 + 1, none⟩ = some (.string ⟨#[]⟩) ∧ w.cell? ⟨g, i * 8 + 2, none⟩ = some .nilIface ∧ w.cell? ⟨g, i * 8 + 3, none⟩ = some (.pointer none) ∧
    w.cell? ⟨g, i * 8 + 4, none⟩ = some (.string t) ∧ w.cell? ⟨g, i * 8 + 5, none⟩ = some (.bool false) ∧ w.cell? ⟨g, i * 8 + 6, none⟩ = some (.int .u8 0) ∧ w.cell? ⟨g, i * 8 + 7, none⟩ = some (.int .u8 0)
theorem NilRow.keep {w w' : World} {g n : Nat} (h : NilRow w g n) (hk : w'.heap[g]? = w.heap[g]?) (hs : w.heap.size ≤ w'.heap.size) : NilRow w' g n := by
  have e : ∀ i, w'.cell? ⟨g, i, none⟩ = w.cell? ⟨g, i, none⟩ := fun i => by simp only [World.cell?, hk]
  refine ⟨Nat.lt_of_lt_of_le h.lt hs, fun i hi => ?_⟩
  obtain ⟨t, h0, h1, h2, h3, h4, h5, h6, h7⟩ := h.c i hi
  exact ⟨t, (e _).trans h0, (e _).trans h1, (e _).trans h2, (e _).trans h3, (e _).trans h4, (e _).trans h5, (e _).trans h6, (e _).trans h7⟩
theorem NilRow.below {w w' : World} {g n : Nat} (h : NilRow w g n) (hb : Below w.heap.size w w') : NilRow w' g n := h.keep (hb.block g h.lt) hb.size
set_option maxRecDepth 100000 in
set_option maxHeartbeats 4000000 in
theorem less (g n c i j : Nat) (w : World) (h : NilRow w g n) (hi : i < n) (hj : j < n) (hn : n ≤ 1048576) :
    Calls Tryf.prog 71 #[.slice (some ⟨g, 0, none⟩) n c, .int .i64 i, .int .i64 j] w fun e w' => e = .returned (.bool false) ∧ Below w.heap.size w w' := by
  obtain ⟨t, a0, a1, a2, a3, a4, a5, a6, a7⟩ := h.c i hi
  obtain ⟨t', b0, b1, b2, b3, b4, b5, b6, b7⟩ := h.c j hj
  have hlt := h.lt
  clear h
  go_enter Tryf.func71, Tryf.ntmps71
  go_wp2_with fail
  go_ret
  exact ⟨rfl, ((Below.refl _ _).alloc (Nat.le_refl _) _).alloc (by simp) _⟩

theorem lessX (g n c i j : Nat) (x y : Int) (w : World) (h : NilRow w g n) (hx : x = i) (hy : y = j) (hi : i < n) (hj : j < n) (hn : n ≤ 1048576) :
    Calls Tryf.prog 71 #[.slice (some ⟨g, 0, none⟩) n c, .int .i64 x, .int .i64 y] w fun e w' => e = .returned (.bool false) ∧ Below w.heap.size w w' := by
  subst hx hy
  exact less g n c i j w h hi hj hn
theorem meth (A : Option Addr) (n c : Nat) (w : World) : (method 240 47 (.slice A n c) "Less").run Tryf.prog w = .ok (71, .slice A n c) w := by kernel_rfl
theorem methLen (A : Option Addr) (n c : Nat) (w : World) : (method 240 47 (.slice A n c) "Len").run Tryf.prog w = .ok (70, .slice A n c) w := by kernel_rfl
set_option maxRecDepth 100000 in
set_option maxHeartbeats 4000000 in
theorem insertion (g n c a b : Nat) (w : World) (h : NilRow w g n) (hb : b ≤ n) (hn : n ≤ 1048576) (ha : a ≤ n) :
    Calls Tryf.prog 33 #[.iface 47 (.slice (some ⟨g, 0, none⟩) n c), .int .i64 a, .int .i64 b] w fun e w' => e = .returned (.tuple #[]) ∧ Below w.heap.size w w' := by
  have H := Lib.hid h
  have hm := fun w => meth (some ⟨g, 0, none⟩) n c w
  clear h
  go_enter Tryf.func33, Tryf.ntmps33
  go_wp2_with fail
  go_loopg [6] (b - a) (fun q i wr => ∃ d : Nat, a ≤ d ∧ d ≤ n ∧ q = b - d ∧ i = .int .i64 ((d : Int) + 1) ∧ Hid (Below w.heap.size w wr))
  case atStart => exact ⟨a, Nat.le_refl _, ha, rfl, rfl, Lib.hid (Below.refl _ _)⟩
  case round =>
    obtain ⟨d, hd, hdn, rfl, rfl, HB⟩ := hrel
    by_cases hpb : d + 1 < b
    · have HR := Lib.hid (H.out.below HB.out)
      go_wp2_with fail
      generalize wr = wO at *
      go_loopg [7] 0 (fun q j wy => q = 0 ∧ j = .int .i64 ((d : Int) + 1) ∧ Hid (Below wO.heap.size wO wy))
      case atStart => exact ⟨rfl, rfl, Lib.hid (Below.refl _ _)⟩
      case round =>
        obtain ⟨rfl, rfl, HBY⟩ := hrel
        have HR2 := Lib.hid (HR.out.below HBY.out)
        go_wp2_with (go_at_call 71; refine (lessX g n c (d + 1) d _ _ _ HR2.out (by omega) (by omega) (by omega) (by omega) hn).mono ?_; rintro e w2 ⟨rfl, hb2⟩; have HB2 := Lib.hid hb2; clear hb2)
        go_roundg (b - (d + 1))
        case rel => exact ⟨d + 1, by omega, by omega, rfl, by go_num, Lib.hid ((HB.out.trans (HBY.out.mono HB.out.size)).trans (HB2.out.mono (Nat.le_trans HB.out.size HBY.out.size)))⟩
        case measure => omega
    · go_wp2_with fail
      go_end0
      exact ⟨rfl, HB.out⟩
end Go.Proofs.YtfkchhmjfnkjbaaFmt
