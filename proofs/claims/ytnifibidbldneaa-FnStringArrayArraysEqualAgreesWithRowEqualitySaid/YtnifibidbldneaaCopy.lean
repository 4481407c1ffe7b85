/- A copy in new memory (printed by gen.py). -/
import Derived.Test.YtnifibidbldneaaRows
import Derived.Test.YtnifibidbldneaaMem
import Derived.WalkKit
import Derived.WalkLawsBesides
import Derived.WalkSpells
import Derived.Deep.LoopGhost
import Derived.Outline
import Derived.RegionTactic
import Derived.StillTailTactics
import Derived.Deep.QuietTactic
import Derived.BigQuiet
import Derived.ChangeAlike
import Derived.Lib.Strings
import Derived.Test.YtnifibidbldneaaCommon
namespace Go.Proofs.Ytnifibidbldneaa
open Go.RowKit
set_option linter.unusedVariables false
set_option linter.unusedSimpArgs false
/-- A copy, in new memory. -/
def ClonedN (F : Nat → Value) (n : Nat) (w : World) (e : Ending) (w' : World) : Prop :=
  ∃ A c, e = .returned (.slice A n c) ∧ n ≤ c ∧ RowF w' w'.heap.size A n F ∧ Below w.heap.size w w' ∧ ∀ ad, A = some ad → w.heap.size ≤ ad.block
theorem cloneN (A : Option Addr) (n c : Nat) (f : Nat → ByteArray) (w : World) (hrow : RowF w w.heap.size A n (fun i => .string (f i))) (hn : n ≤ 1048576) : Calls Try.prog 7 #[.slice A n c] w (ClonedN (fun i => .string (f i)) n w) := by
  have hmk := run_make_at (P := Try.prog) 22 9 (.string (⟨#[]⟩)) 16 Try.underlying22 Try.info9 rfl .i64 .i64 n (n : Int) rfl (by omega) (by omega)
  have hnil := fun w => Lib.run_eql_slice_nil (P := Try.prog) w 22 9 A n c 0 0 Try.underlying22
  rcases A with _ | ad
  · have hn0 : n = 0 := by
      rcases Nat.eq_zero_or_pos n with h0 | h0
      · exact h0
      · obtain ⟨b, o, e, _⟩ := hrow h0; cases e
    subst hn0
    clear hmk
    go_enter Try.func7, Try.ntmps7
    go_wp2
    go_ret
    exact ⟨_, _, rfl, Nat.le_refl _, fun h => absurd h (by omega), Below.refl _ _, fun ad h => by cases h⟩
  · have HR := Lib.hid hrow
    clear hrow
    go_enter Try.func7, Try.ntmps7
    go_wp2
    clear hmk hnil
    go_loopg [4] n (fun g i wr => ∃ k : Nat, k ≤ n ∧ g = n - k ∧ i = .int .i64 k ∧ wr.rowIs w.heap.size 9 n (fun j => .string (if j < k then f j else ⟨#[]⟩)) ∧ Below w.heap.size w wr)
    case atStart => exact ⟨0, Nat.zero_le _, rfl, rfl, (World.rowIs_made w _ n 9).congr (fun j _ => by simp), (Below.refl _ _).alloc (Nat.le_refl _) _⟩
    case round =>
      obtain ⟨k, hk, rfl, rfl, hrow, hbel⟩ := hrel
      by_cases hlt : k < n
      · obtain ⟨b, o, e, hb, hc⟩ := HR.out.at_ hlt
        injection e with e
        subst e
        have hc' : wr.cell? ⟨b, o + k, none⟩ = some (.string (f k)) := (hbel.cell (p := ⟨b, o + k, none⟩) hb).trans hc
        have hst := hrow.cell hlt
        have hfz := hrow.frozen k
        have HN := Lib.hid hrow
        clear hc hrow
        go_wp2
        go_roundg (n - (k + 1))
        case rel =>
          exact ⟨k + 1, by omega, by omega, by go_num, (HN.out.set k _).congr (fun j _ => by
            by_cases e1 : j = k
            · subst e1; simp
            · by_cases e2 : j < k
              · simp [e1, e2, show j < k + 1 by omega]
              · simp [e1, e2, show ¬ j < k + 1 by omega]), hbel.setCell (Nat.le_refl _) _⟩
        case measure => omega
      · have hkn : k = n := by omega
        subst hkn
        have HN := Lib.hid hrow
        have HB := Lib.hid hbel
        clear hrow hbel
        go_wp2
        go_ret
        exact ⟨_, _, rfl, Nat.le_refl _, RowF.of_rowIs (HN.out.congr (fun j hj => by simp [hj])) (Nat.le_refl _) HN.out.lt, HB.out, fun ad h => by injection h with h; subst h; exact Nat.le_refl _⟩
end Go.Proofs.Ytnifibidbldneaa
