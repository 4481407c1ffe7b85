/- Copies and bounds (printed by gen.py). -/
import Derived.Test.YtcjbnieeoggfkaaFmtRows
import Derived.Test.YtcjbnieeoggfkaaFmtMem
import Derived.WalkKit
import Derived.WalkLawsBesides
import Derived.WalkSpells
import Derived.Deep.LoopGhost
import Derived.Outline
import Derived.RegionTactic
import Derived.StillTailTactics
import Derived.Deep.QuietTactic
import Derived.BigQuiet
import Derived.ChangeAlike
import Derived.Lib.Strings
namespace Go.Proofs.YtcjbnieeoggfkaaFmt
open Go.RowKit
set_option linter.unusedVariables false
set_option linter.unusedSimpArgs false
theorem Tryf.info9 : (Tryf.prog.info? 9).map (fun i => (i.zero, i.size, i.bytes)) = some (some (.string ⟨#[]⟩), 1, 16) := by kernel_rfl
theorem clone (A : Option Addr) (n c : Nat) (f : Nat → ByteArray) (w : World) (hrow : RowF w w.heap.size A n (fun i => .string (f i))) (hn : n ≤ 1048576) : Calls Tryf.prog 7 #[.slice A n c] w (Cloned (fun i => .string (f i)) n w) := by
  have hmk := run_make_at (P := Tryf.prog) 22 9 (.string (⟨#[]⟩)) 16 Tryf.underlying22 Tryf.info9 rfl .i64 .i64 n (n : Int) rfl (by omega) (by omega)
  have hnil := fun w => Lib.run_eql_slice_nil (P := Tryf.prog) w 22 9 A n c 0 0 Tryf.underlying22
  rcases A with _ | ad
  · have hn0 : n = 0 := by
      rcases Nat.eq_zero_or_pos n with h0 | h0
      · exact h0
      · obtain ⟨b, o, e, _⟩ := hrow h0; cases e
    subst hn0
    clear hmk
    go_enter Tryf.func7, Tryf.ntmps7
    go_wp2
    go_ret
    exact ⟨_, _, rfl, Nat.le_refl _, fun h => absurd h (by omega), Below.refl _ _⟩
  · have HR := Lib.hid hrow
    clear hrow
    go_enter Tryf.func7, Tryf.ntmps7
    go_wp2
    clear hmk hnil
    go_loopg [4] n (fun g i wr => ∃ k : Nat, k ≤ n ∧ g = n - k ∧ i = .int .i64 k ∧ wr.rowIs w.heap.size 9 n (fun j => .string (if j < k then f j else ⟨#[]⟩)) ∧ Below w.heap.size w wr)
    case atStart => exact ⟨0, Nat.zero_le _, rfl, rfl, (World.rowIs_made w _ n 9).congr (fun j _ => by simp), (Below.refl _ _).alloc (Nat.le_refl _) _⟩
    case round =>
      obtain ⟨k, hk, rfl, rfl, hrow, hbel⟩ := hrel
      by_cases hlt : k < n
      · obtain ⟨b, o, e, hb, hc⟩ := HR.out.at_ hlt
        injection e with e
        subst e
        have hc' : wr.cell? ⟨b, o + k, none⟩ = some (.string (f k)) := (hbel.cell (p := ⟨b, o + k, none⟩) hb).trans hc
        have hst := hrow.cell hlt
        have hfz := hrow.frozen k
        have HN := Lib.hid hrow
        clear hc hrow
        go_wp2
        go_roundg (n - (k + 1))
        case rel =>
          exact ⟨k + 1, by omega, by omega, by go_num, (HN.out.set k _).congr (fun j _ => by
            by_cases e1 : j = k
            · subst e1; simp
            · by_cases e2 : j < k
              · simp [e1, e2, show j < k + 1 by omega]
              · simp [e1, e2, show ¬ j < k + 1 by omega]), hbel.setCell (Nat.le_refl _) _⟩
        case measure => omega
      · have hkn : k = n := by omega
        subst hkn
        have HN := Lib.hid hrow
        have HB := Lib.hid hbel
        clear hrow hbel
        go_wp2
        go_ret
        exact ⟨_, _, rfl, Nat.le_refl _, RowF.of_rowIs (HN.out.congr (fun j hj => by simp [hj])) (Nat.le_refl _) HN.out.lt, HB.out⟩
set_option maxHeartbeats 2000000 in
set_option maxRecDepth 100000 in
theorem zzB4 (A0 : Option Addr) (n0 c0 : Nat) (f0 : Nat → ByteArray) (w : World) (h0 : InStrs w A0 n0 c0 f0) : Calls Tryf.prog 4 #[.slice A0 n0 c0] w fun e w' => e = .returned (.bool (decide (n0 + tot f0 n0 ≤ 1048576))) ∧ w = w' := by
  have hm0 := Nat.le_trans h0.le h0.max
  unfold maxLen at hm0
  have H0 := Lib.hid h0
  clear h0
  go_enter Tryf.func4, Tryf.ntmps4
  by_cases hA0 : n0 ≤ 1048576
  · go_wp2_with fail
    go_loopg [3, 4] n0 (fun g s z wr => w = wr ∧ ∃ k T : Nat, k ≤ n0 ∧ g = n0 - k ∧ s = .int .i64 (T : Int) ∧ T ≤ 1048576 ∧ Hid (T = n0 + tot f0 k) ∧ z = .int .i64 k)
    case atStart => exact ⟨rfl, 0, n0, Nat.zero_le _, rfl, by go_num, hA0, Lib.hid (by simp [tot]), rfl⟩
    case round =>
      obtain ⟨rfl, k, T, hk, rfl, rfl, hT, hE, rfl⟩ := hrel
      by_cases hlt : k < n0
      · obtain ⟨b, o, rfl, hb, hc⟩ := H0.out.row.at_ hlt
        have ht := tot_at f0 hlt
        by_cases g1 : (f0 k).size ≤ 1048576
        · by_cases g2 : T + (f0 k).size ≤ 1048576
          · go_wp2_with fail
            go_roundg (n0 - (k + 1))
            case rel => exact ⟨rfl, k + 1, T + (f0 k).size, by omega, rfl, by go_num, g2, Lib.hid (by have q := hE.out; simp only [tot]; omega), by go_num⟩
            case measure => omega
          · go_wp2_with fail
            go_ret
            exact ⟨ret_boolv (by  have q := hE.out; exact decide_eq_false (by omega)), rfl⟩
        · go_wp2_with fail
          go_ret
          exact ⟨ret_boolv (by  have q := hE.out; exact decide_eq_false (by omega)), rfl⟩
      · have hkn : k = n0 := by omega
        have E0 : Hid (T = n0 + tot f0 n0) := Lib.hid (by rw [← hkn]; have q := hE.out; omega)
        clear hE hkn
        obtain ⟨T0, rfl⟩ : ∃ X, X = T := ⟨_, rfl⟩
        go_wp2_with fail
        go_ret
        exact ⟨ret_boolv (by have q0 := E0.out; exact decide_eq_true (by omega)), rfl⟩
  · go_wp2_with fail
    go_ret
    exact ⟨ret_boolv (by   exact decide_eq_false (by omega)), rfl⟩
end Go.Proofs.YtcjbnieeoggfkaaFmt
