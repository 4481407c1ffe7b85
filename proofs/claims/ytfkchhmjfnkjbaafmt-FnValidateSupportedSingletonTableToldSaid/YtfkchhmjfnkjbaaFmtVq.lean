/- Bounds and copies (printed by genVq.py). -/
import Derived.Test.YtfkchhmjfnkjbaaFmtRows
import Derived.Test.YtfkchhmjfnkjbaaFmtMem
import Derived.WalkKit
import Derived.WalkLawsBesides
import Derived.WalkSpells
import Derived.Deep.LoopGhost
import Derived.Outline
import Derived.RegionTactic
import Derived.StillTailTactics
import Derived.Deep.QuietTactic
import Derived.BigQuiet
import Derived.ChangeAlike
import Derived.Lib.Strings
import Derived.Laws.CopyOwn
import Derived.Lib.SliceRun
namespace Go.Proofs.YtfkchhmjfnkjbaaFmt
open Go.RowKit
set_option linter.unusedVariables false
set_option linter.unusedSimpArgs false
set_option maxHeartbeats 2000000 in
set_option maxRecDepth 100000 in
theorem zzB5 (A0 : Option Addr) (n0 c0 : Nat) (f0 : Nat → ByteArray) (A1 : Option Addr) (n1 c1 : Nat) (w : World) (h0 : InStrs w A0 n0 c0 f0) (h1 : n1 ≤ maxLen) : Calls Tryf.prog 5 #[.slice A0 n0 c0, .slice A1 n1 c1] w fun e w' => e = .returned (.bool (decide (n0 + tot f0 n0 + n1 ≤ 1048576))) ∧ w = w' := by
  have hm0 := Nat.le_trans h0.le h0.max
  unfold maxLen at hm0
  have H0 := Lib.hid h0
  clear h0
  unfold maxLen at h1
  go_enter Tryf.func5, Tryf.ntmps5
  by_cases hA0 : n0 ≤ 1048576
  · go_wp2_with fail
    go_loopg [5, 6] n0 (fun g s z wr => w = wr ∧ ∃ k T : Nat, k ≤ n0 ∧ g = n0 - k ∧ s = .int .i64 (T : Int) ∧ T ≤ 1048576 ∧ Hid (T = n0 + tot f0 k) ∧ z = .int .i64 k)
    case atStart => exact ⟨rfl, 0, n0, Nat.zero_le _, rfl, by go_num, hA0, Lib.hid (by simp [tot]), rfl⟩
    case round =>
      obtain ⟨rfl, k, T, hk, rfl, rfl, hT, hE, rfl⟩ := hrel
      by_cases hlt : k < n0
      · obtain ⟨b, o, rfl, hb, hc⟩ := H0.out.row.at_ hlt
        have ht := tot_at f0 hlt
        by_cases g1 : (f0 k).size ≤ 1048576
        · by_cases g2 : T + (f0 k).size ≤ 1048576
          · go_wp2_with fail
            go_roundg (n0 - (k + 1))
            case rel => exact ⟨rfl, k + 1, T + (f0 k).size, by omega, rfl, by go_num, g2, Lib.hid (by have q := hE.out; simp only [tot]; omega), by go_num⟩
            case measure => omega
          · go_wp2_with fail
            go_ret
            exact ⟨ret_boolv (by  have q := hE.out; exact decide_eq_false (by omega)), rfl⟩
        · go_wp2_with fail
          go_ret
          exact ⟨ret_boolv (by  have q := hE.out; exact decide_eq_false (by omega)), rfl⟩
      · have hkn : k = n0 := by omega
        have E0 : Hid (T = n0 + tot f0 n0) := Lib.hid (by rw [← hkn]; have q := hE.out; omega)
        clear hE hkn
        obtain ⟨T0, rfl⟩ : ∃ X, X = T := ⟨_, rfl⟩
        by_cases hA1 : n1 ≤ 1048576
        · by_cases hB1 : T0 + n1 ≤ 1048576
          · go_wp2_with fail
            go_ret
            exact ⟨ret_boolv (by have q0 := E0.out; exact decide_eq_true (by omega)), rfl⟩
          · go_wp2_with fail
            go_ret
            exact ⟨ret_boolv (by have q0 := E0.out;  exact decide_eq_false (by omega)), rfl⟩
        · go_wp2_with fail
          go_ret
          exact ⟨ret_boolv (by have q0 := E0.out;  exact decide_eq_false (by omega)), rfl⟩
  · go_wp2_with fail
    go_ret
    exact ⟨ret_boolv (by   exact decide_eq_false (by omega)), rfl⟩
set_option maxHeartbeats 2000000 in
set_option maxRecDepth 100000 in
theorem zzB9 (A0 : Option Addr) (n0 c0 : Nat) (f0 : Nat → ByteArray) (A1 : Option Addr) (n1 c1 : Nat) (w : World) (h0 : InStrs w A0 n0 c0 f0) (h1 : n1 ≤ maxLen) : Calls Tryf.prog 9 #[.slice A0 n0 c0, .slice A1 n1 c1] w fun e w' => e = .returned (.bool (decide (n0 + tot f0 n0 + n1 ≤ 1048576))) ∧ w = w' := by
  have hm0 := Nat.le_trans h0.le h0.max
  unfold maxLen at hm0
  have H0 := Lib.hid h0
  clear h0
  unfold maxLen at h1
  go_enter Tryf.func9, Tryf.ntmps9
  by_cases hA0 : n0 ≤ 1048576
  · go_wp2_with fail
    go_loopg [5, 6] n0 (fun g s z wr => w = wr ∧ ∃ k T : Nat, k ≤ n0 ∧ g = n0 - k ∧ s = .int .i64 (T : Int) ∧ T ≤ 1048576 ∧ Hid (T = n0 + tot f0 k) ∧ z = .int .i64 k)
    case atStart => exact ⟨rfl, 0, n0, Nat.zero_le _, rfl, by go_num, hA0, Lib.hid (by simp [tot]), rfl⟩
    case round =>
      obtain ⟨rfl, k, T, hk, rfl, rfl, hT, hE, rfl⟩ := hrel
      by_cases hlt : k < n0
      · obtain ⟨b, o, rfl, hb, hc⟩ := H0.out.row.at_ hlt
        have ht := tot_at f0 hlt
        by_cases g1 : (f0 k).size ≤ 1048576
        · by_cases g2 : T + (f0 k).size ≤ 1048576
          · go_wp2_with fail
            go_roundg (n0 - (k + 1))
            case rel => exact ⟨rfl, k + 1, T + (f0 k).size, by omega, rfl, by go_num, g2, Lib.hid (by have q := hE.out; simp only [tot]; omega), by go_num⟩
            case measure => omega
          · go_wp2_with fail
            go_ret
            exact ⟨ret_boolv (by  have q := hE.out; exact decide_eq_false (by omega)), rfl⟩
        · go_wp2_with fail
          go_ret
          exact ⟨ret_boolv (by  have q := hE.out; exact decide_eq_false (by omega)), rfl⟩
      · have hkn : k = n0 := by omega
        have E0 : Hid (T = n0 + tot f0 n0) := Lib.hid (by rw [← hkn]; have q := hE.out; omega)
        clear hE hkn
        obtain ⟨T0, rfl⟩ : ∃ X, X = T := ⟨_, rfl⟩
        by_cases hA1 : n1 ≤ 1048576
        · by_cases hB1 : T0 + n1 ≤ 1048576
          · go_wp2_with fail
            go_ret
            exact ⟨ret_boolv (by have q0 := E0.out; exact decide_eq_true (by omega)), rfl⟩
          · go_wp2_with fail
            go_ret
            exact ⟨ret_boolv (by have q0 := E0.out;  exact decide_eq_false (by omega)), rfl⟩
        · go_wp2_with fail
          go_ret
          exact ⟨ret_boolv (by have q0 := E0.out;  exact decide_eq_false (by omega)), rfl⟩
  · go_wp2_with fail
    go_ret
    exact ⟨ret_boolv (by   exact decide_eq_false (by omega)), rfl⟩
theorem Tryf.info9 : (Tryf.prog.info? 9).map (fun i => (i.zero, i.size, i.bytes)) = some (some (.string ⟨#[]⟩), 1, 16) := by kernel_rfl
theorem cloneS (A : Option Addr) (n c : Nat) (f : Nat → ByteArray) (w : World) (hrow : RowF w w.heap.size A n (fun i => .string (f i))) (hn : n ≤ 4096) : Calls Tryf.prog 6 #[.slice A n c] w (Cloned (fun i => .string (f i)) n w) := by
  have hmk := run_make_at (P := Tryf.prog) 22 9 (.string ⟨#[]⟩) 16 Tryf.underlying22 Tryf.info9 rfl .i64 .i64 n (n : Int) rfl (by omega) (by omega)
  have hnil := fun w => Lib.run_eql_slice_nil (P := Tryf.prog) w 22 9 A n c 0 0 Tryf.underlying22
  rcases A with _ | ad
  · have hn0 : n = 0 := by
      rcases Nat.eq_zero_or_pos n with h0 | h0
      · exact h0
      · obtain ⟨b, o, e, _⟩ := hrow h0; cases e
    subst hn0
    clear hmk
    go_enter Tryf.func6, Tryf.ntmps6
    go_wp2
    go_ret
    exact ⟨_, _, rfl, Nat.le_refl _, fun h => absurd h (by omega), Below.refl _ _⟩
  · have HR := Lib.hid hrow
    clear hrow
    have hsrc : Hid (∀ j v, ((List.range n).map fun i => .string (f i))[j]? = some v → (w.alloc (.cells (madeCells #[.string ⟨#[]⟩] n) 9)).cell? (ad.add j) = some v) := Lib.hid fun j v hj => by
      have hjn : j < n := by
        have := (List.getElem?_eq_some_iff.1 hj).1
        simpa using this
      obtain ⟨b, o, e, hb, hc⟩ := HR.out (by omega)
      injection e with e
      subst e
      rw [add_flat, World.cell?_of_block (a := ⟨b, o + j, none⟩) (Below.heap_alloc _ _ _ hb), hc j hjn]
      simp [hjn] at hj
      rw [← hj]
    go_enter Tryf.func6, Tryf.ntmps6
    go_wp2_with (refine wpList_copy_own rfl (.tmp 9) (.tmp 10) 22 22 rfl 9 Tryf.underlying22 (by kernel_rfl) w.heap.size 0 n n ad n c rfl rfl (madeCells #[.string ⟨#[]⟩] n) 9 (heap_alloc_new w _) ((List.range n).map fun i => .string (f i)) (by simp) hsrc.out (by simp [madeCells]) (by intro v hv; simp at hv; obtain ⟨i, _, rfl⟩ := hv; rfl) ?_)
    go_ret
    refine ⟨_, _, rfl, Nat.le_refl _, fun h0 => ⟨w.heap.size, 0, rfl, by simp [World.setRow], fun j hj => ?_⟩, below_setRow ((Below.refl _ _).alloc (Nat.le_refl _) _) (Nat.le_refl _) _⟩
    rw [Nat.zero_add, cell_of_row _ _ j _ _ _ (setRow_heap _ _ _ _ _ _ (heap_alloc_new w _))]
    show (List.toArray _)[j]? = _
    rw [List.getElem?_toArray, List.getElem?_append_left (by simpa using hj)]
    simp [hj]
theorem Tryf.info4 : (Tryf.prog.info? 4).map (fun i => (i.zero, i.size, i.bytes)) = some (some (.bool false), 1, 1) := by kernel_rfl
theorem cloneB (A : Option Addr) (n c : Nat) (f : Nat → Bool) (w : World) (hrow : RowF w w.heap.size A n (fun i => .bool (f i))) (hn : n ≤ 4096) : Calls Tryf.prog 7 #[.slice A n c] w (Cloned (fun i => .bool (f i)) n w) := by
  have hmk := run_make_at (P := Tryf.prog) 23 4 (.bool false) 1 Tryf.underlying23 Tryf.info4 rfl .i64 .i64 n (n : Int) rfl (by omega) (by omega)
  have hnil := fun w => Lib.run_eql_slice_nil (P := Tryf.prog) w 23 4 A n c 0 0 Tryf.underlying23
  rcases A with _ | ad
  · have hn0 : n = 0 := by
      rcases Nat.eq_zero_or_pos n with h0 | h0
      · exact h0
      · obtain ⟨b, o, e, _⟩ := hrow h0; cases e
    subst hn0
    clear hmk
    go_enter Tryf.func7, Tryf.ntmps7
    go_wp2
    go_ret
    exact ⟨_, _, rfl, Nat.le_refl _, fun h => absurd h (by omega), Below.refl _ _⟩
  · have HR := Lib.hid hrow
    clear hrow
    have hsrc : Hid (∀ j v, ((List.range n).map fun i => .bool (f i))[j]? = some v → (w.alloc (.cells (madeCells #[.bool false] n) 4)).cell? (ad.add j) = some v) := Lib.hid fun j v hj => by
      have hjn : j < n := by
        have := (List.getElem?_eq_some_iff.1 hj).1
        simpa using this
      obtain ⟨b, o, e, hb, hc⟩ := HR.out (by omega)
      injection e with e
      subst e
      rw [add_flat, World.cell?_of_block (a := ⟨b, o + j, none⟩) (Below.heap_alloc _ _ _ hb), hc j hjn]
      simp [hjn] at hj
      rw [← hj]
    go_enter Tryf.func7, Tryf.ntmps7
    go_wp2_with (refine wpList_copy_own rfl (.tmp 9) (.tmp 10) 23 23 rfl 4 Tryf.underlying23 (by kernel_rfl) w.heap.size 0 n n ad n c rfl rfl (madeCells #[.bool false] n) 4 (heap_alloc_new w _) ((List.range n).map fun i => .bool (f i)) (by simp) hsrc.out (by simp [madeCells]) (by intro v hv; simp at hv; obtain ⟨i, _, rfl⟩ := hv; rfl) ?_)
    go_ret
    refine ⟨_, _, rfl, Nat.le_refl _, fun h0 => ⟨w.heap.size, 0, rfl, by simp [World.setRow], fun j hj => ?_⟩, below_setRow ((Below.refl _ _).alloc (Nat.le_refl _) _) (Nat.le_refl _) _⟩
    rw [Nat.zero_add, cell_of_row _ _ j _ _ _ (setRow_heap _ _ _ _ _ _ (heap_alloc_new w _))]
    show (List.toArray _)[j]? = _
    rw [List.getElem?_toArray, List.getElem?_append_left (by simpa using hj)]
    simp [hj]
end Go.Proofs.YtfkchhmjfnkjbaaFmt

