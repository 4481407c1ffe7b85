/- AddErrorWithNotes on the log. -/
import Derived.Test.YtnccjpkeaapefaaFmtKb
import Derived.Deep.RegionWith
import Derived.Deep.RegionHeld3
namespace Go.Proofs.YtnccjpkeaapefaaFmt
open Go.RowKit Go.MuLone
set_option linter.unusedVariables false
set_option linter.unusedSimpArgs false

theorem below_step {w Y w' : World} (h : Below w.heap.size w Y) (k : Below Y.heap.size Y w') : Below w.heap.size w w' := h.trans (k.mono h.size)
theorem below_alloc {w Y : World} (h : Below w.heap.size w Y) (o : Obj) : Below w.heap.size w (Y.alloc o) := h.alloc h.size o
theorem locNil (w : World) (x y : Int) : Calls Tryf.prog 34 #[.pointer none, .agg #[.int .i32 x, .int .i32 y]] w fun e w' => e = .returned (.pointer none) ∧ Below w.heap.size w w' := by
  go_enter Tryf.func34, Tryf.ntmps34
  go_wp2_with fail
  go_ret
  exact ⟨rfl, below_alloc (Below.refl _ _) _⟩
theorem msgData (w : World) (x y : Int) (t : ByteArray) : Calls Tryf.prog 23 #[.pointer none, .agg #[.int .i32 x, .int .i32 y], .string t] w fun e w' => e = .returned (.agg #[.nilIface, .pointer none, .string t, .bool false]) ∧ Below w.heap.size w w' := by
  go_enter Tryf.func23, Tryf.ntmps23
  go_wp2_with fail
  refine (locNil _ _ _).mono ?_
  rintro e w1 ⟨rfl, hb⟩
  have h1 : w1.heap[w.heap.size + 1]? = some (.cells #[.nilIface, .pointer none, .string ⟨#[]⟩, .bool false] 106 (0, 0)) := (hb.block _ (by simp)).trans (heap_alloc_at (by simp))
  have HB : Hid (Below w.heap.size w w1) := Lib.hid (below_step (below_alloc (below_alloc (Below.refl _ _) _) _) hb)
  have c0 : w1.cell? ⟨w.heap.size + 1, 0, none⟩ = some .nilIface := by rw [Lib.cell_of_heap h1]; rfl
  have c1 : w1.cell? ⟨w.heap.size + 1, 1, none⟩ = some (.pointer none) := by rw [Lib.cell_of_heap h1]; rfl
  have c2 : w1.cell? ⟨w.heap.size + 1, 2, none⟩ = some (.string ⟨#[]⟩) := by rw [Lib.cell_of_heap h1]; rfl
  have c3 : w1.cell? ⟨w.heap.size + 1, 3, none⟩ = some (.bool false) := by rw [Lib.cell_of_heap h1]; rfl
  have f0 := Lib.frozen_of_heap h1 0
  have f1 := Lib.frozen_of_heap h1 1
  have f2 := Lib.frozen_of_heap h1 2
  have f3 := Lib.frozen_of_heap h1 3
  clear hb h1
  generalize hG : w.heap.size + 1 = G at *
  go_wp2_with fail
  refine bodyPost_ret (v := .agg #[.nilIface, .pointer none, .string t, .bool false]) (by simp [results, Tryf.results23, go_sem, c0, c1, c2, c3]) rfl ⟨rfl, ?_⟩
  exact (((HB.out.setCell (p := ⟨G, 0, none⟩) (by show _ ≤ G; omega) _).setCell (p := ⟨G, 1, none⟩) (by show _ ≤ G; omega) _).setCell (p := ⟨G, 2, none⟩) (by show _ ≤ G; omega) _).setCell (p := ⟨G, 3, none⟩) (by show _ ≤ G; omega) _

set_option maxHeartbeats 4000000 in
theorem addErr (b : Nat) (w : World) (h : LogAt b 0 false w) (hm0 : w.heap[b + 2]? = some (.cells #[.slice none 0 0] 96 (0, 0))) (x y : Int) (t : ByteArray) (A : Option Addr) (n c : Nat) :
    Calls Tryf.prog 18 #[.agg (logC b), .pointer none, .agg #[.int .i32 x, .int .i32 y], .string t, .slice A n c] w fun e w' => e = .returned (.tuple #[]) ∧ LogAt b 1 true w' ∧ Kept b w w' := by
  have hbl := h.lt
  have H := Lib.hid h
  have HM := Lib.hid hm0
  clear h hm0
  unfold logC pt
  go_enter Tryf.func18, Tryf.ntmps18
  go_wp2_with fail
  go_region_with (first
    | (go_at_call 23; refine (msgData _ _ _ _).mono ?_; rintro e w1 ⟨rfl, hb1⟩; have hk1 := Lib.hid (Kept.of_below (b := b) (below_step (Below.drew (below_alloc (below_alloc (Below.refl _ w) _) _)) hb1)); have hl1 := Lib.hid (H.out.keep (w' := w1) fun g hg => (hb1.block g (by simp; omega)).trans ((Below.heap_alloc _ _ _ (by simp; omega)).trans (Below.heap_alloc _ _ _ hg))); have hm1 := Lib.hid ((hb1.block (b + 2) (by simp; omega)).trans ((Below.heap_alloc _ _ _ (by simp; omega)).trans ((Below.heap_alloc _ _ _ (by omega)).trans HM.out))); have hc1 : w1.cell? ⟨w.heap.size, 0, none⟩ = some (.func (Fn.func 9) #[] #[.pointer (some ⟨b, 0, none⟩), .pointer (some ⟨b + 3, 0, none⟩), .pointer (some ⟨b + 4, 0, none⟩), .pointer (some ⟨b + 2, 0, none⟩)]) := (by rw [Lib.cell_of_heap ((hb1.block w.heap.size (by simp; omega)).trans ((Below.heap_alloc _ _ _ (by simp)).trans (heap_alloc_at rfl)))]; rfl); clear hb1)
    | (go_at_call 9; refine (addMsg b _ hl1.out hm1.out _ _ _ _).mono ?_; rintro e w2 ⟨rfl, hl2, hk2⟩))
  all_goals go_end0
  all_goals exact ⟨rfl, hl2, hk1.out.trans hk2⟩
end Go.Proofs.YtnccjpkeaapefaaFmt
