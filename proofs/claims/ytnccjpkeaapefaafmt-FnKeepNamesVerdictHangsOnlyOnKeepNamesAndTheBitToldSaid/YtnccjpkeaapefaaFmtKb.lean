/- The log's last closure: it sorts at most one message. -/
import Derived.Test.YtnccjpkeaapefaaFmtKa
import Derived.Deep.LoopGhost
namespace Go.Proofs.YtnccjpkeaapefaaFmt
open Go.RowKit Go.MuLone
set_option linter.unusedVariables false
set_option linter.unusedSimpArgs false

theorem insertion (v : Value) (n : Nat) (hn : n ≤ 1) (w : World) : Calls Tryf.prog 32 #[v, .int .i64 0, .int .i64 n] w fun e w' => e = .returned (.tuple #[]) ∧ w' = w := by
  go_enter Tryf.func32, Tryf.ntmps32
  go_wp2
  go_loopg [6] 0 (fun g z wr => wr = w ∧ z = .int .i64 1)
  case atStart => exact ⟨rfl, rfl⟩
  case round =>
    obtain ⟨rfl, rfl⟩ := hrel
    go_wp2
    go_end0
    exact ⟨rfl, rfl⟩
theorem stable (v : Value) (n : Nat) (hn : n ≤ 1) (w : World) : Calls Tryf.prog 22 #[v, .int .i64 n] w fun e w' => e = .returned (.tuple #[]) ∧ w' = w := by
  go_enter Tryf.func22, Tryf.ntmps22
  go_wp2_with fail
  go_loopg [5, 6] 0 (fun g a b wr => wr = w ∧ a = .int .i64 0 ∧ b = .int .i64 20)
  case atStart => exact ⟨rfl, rfl, rfl⟩
  case round =>
    obtain ⟨rfl, rfl, rfl⟩ := hrel
    go_wp2_with (go_at_call 32; refine (insertion _ n hn _).mono ?_; rintro e w' ⟨rfl, rfl⟩)
    go_loopg [4, 5, 6, 7] 0 (fun g a b c d wr => w' = wr ∧ a = .int .i64 20)
    case atStart => exact ⟨rfl, rfl⟩
    case round =>
      obtain ⟨rfl, rfl⟩ := hrel
      go_wp2_with fail
      go_end0
      exact ⟨rfl, rfl⟩
set_option maxRecDepth 100000 in
set_option maxHeartbeats 4000000 in
theorem sortStable (A : Option Addr) (n c : Nat) (hn : n ≤ 1) (w : World) : Calls Tryf.prog 15 #[.iface 96 (.slice A n c)] w fun e w' => e = .returned (.tuple #[]) ∧ w' = w := by
  have hm : ∀ w, (method 374 96 (.slice A n c) "Len").run Tryf.prog w = .ok (80, .slice A n c) w := fun _ => by kernel_rfl
  go_enter Tryf.func15, Tryf.ntmps15
  go_wp2_with (first | (go_at_call 22; refine (stable _ n hn _).mono ?_; rintro e w' ⟨rfl, rfl⟩) | (go_at_call 80; go_in))
  go_end0
  exact ⟨rfl, rfl⟩
set_option maxHeartbeats 1000000 in
theorem doneLog (b n : Nat) (he : Bool) (hn : n ≤ 1) (w : World) (h : LogAt b n he w) :
    Calls Tryf.prog 14 #[pt (b + 3), pt (b + 2)] w fun e w' => (∃ A c, e = .returned (.slice A n c)) ∧ LogAt b n he w' ∧ Kept b w w' := by
  have cx : w.cell? ⟨b + 3, 0, none⟩ = some (.int .i32 0) := by rw [Lib.cell_of_heap h.x]; rfl
  obtain ⟨A, c, hm⟩ := h.m
  have fx : w.frozen? ⟨b + 3, 0, none⟩ = false := Lib.frozen_of_heap h.x 0
  have H := Lib.hid h
  have hx1 := h.lock
  have hm1 : (w.setCell ⟨b + 3, 0, none⟩ (.int .i32 1)).heap[b + 2]? = some (.cells #[.slice A n c] 96 (0, 0)) := set_other (by omega) hm _
  have cm : (w.setCell ⟨b + 3, 0, none⟩ (.int .i32 1)).cell? ⟨b + 2, 0, none⟩ = some (.slice A n c) := by rw [Lib.cell_of_heap hm1]; rfl
  have HX := Lib.hid hx1
  have HM := Lib.hid hm1
  clear h hm hx1 hm1
  unfold pt
  go_enter_defers Tryf.func14, Tryf.ntmps14
  go_wp2_with (first | (go_at_call 10; refine (lock_free Tryf.muLib _ _ cx fx).mono ?_; rintro e w' ⟨rfl, rfl⟩) | (go_at_call 15; refine (sortStable A n c hn _).mono ?_; rintro e w' ⟨rfl, rfl⟩))
  refine leaves_cons (f := 11) (args := #[.pointer (some ⟨b + 3, 0, none⟩)]) (by simp) (by simp [go_sem]) ?_
  refine (unlock_deferred Tryf.muLib ⟨b + 3, 0, none⟩ .returning _ (by rw [Lib.cell_of_heap HX.out]; rfl) (Lib.frozen_of_heap HX.out 0)).mono ?_
  rintro e u' w'' ⟨rfl, rfl, rfl⟩
  exact ⟨_, results_tmp rfl _ _ _, ⟨_, _, rfl⟩, LogAt.unlock (set_other (by omega) H.out.k _) ⟨A, c, HM.out⟩ HX.out (set_other (by omega) H.out.h _), ((Kept.refl b w).set (by simp) (by simp) _).set (by simp) (by simp) _⟩

theorem Tryf.info109 : (Tryf.prog.info? 109).map (fun i => (i.zero, i.size, i.bytes)) = some (some (.agg #[.slice none 0 0, .string ⟨#[]⟩, .nilIface, .pointer none, .string ⟨#[]⟩, .bool false, .int .u8 0, .int .u8 0]), 8, 96) := by kernel_rfl
theorem cells_new (w : World) (cs : Array Value) (t : TypeId) : ∀ j u, cs.toList[j]? = some u → (w.alloc (.cells cs t)).cell? ((⟨w.heap.size, 0, none⟩ : Addr).add j) = some u := by
  intro j u hu
  have : ((⟨w.heap.size, 0, none⟩ : Addr).add j) = ⟨w.heap.size, j, none⟩ := by
    unfold Addr.add
    by_cases h : j = 0 <;> simp [h]
  rw [this, Lib.cell_of_heap (heap_alloc_new w _)]
  simpa using hu
def msgC (A : Option Addr) (n c : Nat) (t : ByteArray) : Array Value := #[.slice A n c, .string ⟨#[]⟩, .nilIface, .pointer none, .string t, .bool false, .int .u8 0, .int .u8 0]
set_option maxHeartbeats 2000000 in
theorem addMsg (b : Nat) (w : World) (h : LogAt b 0 false w) (hm0 : w.heap[b + 2]? = some (.cells #[.slice none 0 0] 96 (0, 0))) (A : Option Addr) (n c : Nat) (t : ByteArray) :
    Calls Tryf.prog 9 #[.agg (msgC A n c t), pt b, pt (b + 3), pt (b + 4), pt (b + 2)] w fun e w' => e = .returned (.tuple #[]) ∧ LogAt b 1 true w' ∧ Kept b w w' := by
  obtain ⟨i0, hi, hz0, hz1, hz2⟩ := info_parts Tryf.info109
  have HI := Lib.hid hi
  have HZ0 := Lib.hid hz0
  have HZ1 := Lib.hid hz1
  have HZ2 := Lib.hid hz2
  clear hi hz0 hz1 hz2
  have hbl := h.lt
  have K1 : Hid (Kept b w (w.alloc (.cells (msgC A n c t) 109))) := Lib.hid ((Kept.refl b w).alloc _)
  have h1 : LogAt b 0 false (w.alloc (.cells (msgC A n c t) 109)) := h.keep fun g hg => Below.heap_alloc _ _ _ hg
  have hm1 : (w.alloc (.cells (msgC A n c t) 109)).heap[b + 2]? = some (.cells #[.slice none 0 0] 96 (0, 0)) := (Below.heap_alloc _ _ _ (by omega)).trans hm0
  have hg1 : (w.alloc (.cells (msgC A n c t) 109)).heap[w.heap.size]? = some (.cells (msgC A n c t) 109 (0, 0)) := heap_alloc_new w _
  have hgs : (w.alloc (.cells (msgC A n c t) 109)).heap.size = w.heap.size + 1 := by simp
  have cx := (by rw [Lib.cell_of_heap h1.x]; rfl : (w.alloc (.cells (msgC A n c t) 109)).cell? ⟨b + 3, 0, none⟩ = some (.int .i32 0))
  have fx : (w.alloc (.cells (msgC A n c t) 109)).frozen? ⟨b + 3, 0, none⟩ = false := Lib.frozen_of_heap h1.x 0
  have ck : w.cell? ⟨b, 0, none⟩ = some (.int .u8 0) := by rw [Lib.cell_of_heap h.k]; rfl
  have hb0 : b < w.heap.size := by omega
  have hx2 := h1.lock
  have hm2 := set_other (i := 0) (show b + 2 ≠ b + 3 by omega) hm1 (.int .i32 1)
  have hg2 := set_other (i := 0) (show w.heap.size ≠ b + 3 by omega) hg1 (.int .i32 1)
  have hk2 := set_other (i := 0) (show b ≠ b + 3 by omega) h1.k (.int .i32 1)
  have hh2 := set_other (i := 0) (show b + 4 ≠ b + 3 by omega) h1.h (.int .i32 1)
  have K2 : Hid (Kept b w ((w.alloc (.cells (msgC A n c t) 109)).setCell ⟨b + 3, 0, none⟩ (.int .i32 1))) := Lib.hid (K1.out.set (by simp) (by simp) _)
  have hs2 : ((w.alloc (.cells (msgC A n c t) 109)).setCell ⟨b + 3, 0, none⟩ (.int .i32 1)).heap.size = w.heap.size + 1 := by simp [World.setCell]
  clear h h1 hm0 hm1 hg1 hgs
  unfold pt
  unfold msgC at *
  go_enter_defers Tryf.func9, Tryf.ntmps9
  go_wp2_with fail
  refine (lock_free Tryf.muLib _ _ cx fx).mono ?_
  rintro e w' ⟨rfl, rfl⟩
  generalize (w.alloc (.cells #[.slice A n c, .string ⟨#[]⟩, .nilIface, .pointer none, .string t, .bool false, .int .u8 0, .int .u8 0] 109)).setCell ⟨b + 3, 0, none⟩ (.int .i32 1) = W at *
  generalize w.heap.size = G at *
  have g0 : W.cell? ⟨G, 0, none⟩ = some (.slice A n c) := by rw [Lib.cell_of_heap hg2]; rfl
  have g1 : W.cell? ⟨G, 1, none⟩ = some (.string ⟨#[]⟩) := by rw [Lib.cell_of_heap hg2]; rfl
  have g2 : W.cell? ⟨G, 2, none⟩ = some .nilIface := by rw [Lib.cell_of_heap hg2]; rfl
  have g3 : W.cell? ⟨G, 3, none⟩ = some (.pointer none) := by rw [Lib.cell_of_heap hg2]; rfl
  have g4 : W.cell? ⟨G, 4, none⟩ = some (.string t) := by rw [Lib.cell_of_heap hg2]; rfl
  have g5 : W.cell? ⟨G, 5, none⟩ = some (.bool false) := by rw [Lib.cell_of_heap hg2]; rfl
  have g6 : W.cell? ⟨G, 6, none⟩ = some (.int .u8 0) := by rw [Lib.cell_of_heap hg2]; rfl
  have g7 : W.cell? ⟨G, 7, none⟩ = some (.int .u8 0) := by rw [Lib.cell_of_heap hg2]; rfl
  have ch : W.cell? ⟨b + 4, 0, none⟩ = some (.bool false) := by rw [Lib.cell_of_heap hh2]; rfl
  have fh : W.frozen? ⟨b + 4, 0, none⟩ = false := Lib.frozen_of_heap hh2 0
  have cm : W.cell? ⟨b + 2, 0, none⟩ = some (.slice none 0 0) := by rw [Lib.cell_of_heap hm2]; rfl
  go_wp2_with (at_builtin; (refine wpList_append_own _ rfl (.tmp 22) (.tmp 24) 96 rfl 0 109 i0 _ 8 96 Tryf.underlying96 HI.out HZ0.out HZ1.out HZ2.out rfl (by decide) _ _ _ rfl (World.ownsRow_nil _ _ _ _) ⟨G + 1, 0, none⟩ 1 1 [.slice A n c, .string ⟨#[]⟩, .nilIface, .pointer none, .string t, .bool false, .int .u8 0, .int .u8 0] rfl rfl ?hcells (by intro u hu; simp at hu; rcases hu with rfl | rfl | rfl | rfl | rfl | rfl | rfl | rfl <;> rfl) (by unfold maxLen; omega) (by omega) (Nat.zero_le _) ?_))
  case hcells =>
    have := cells_new (W.setCell ⟨b + 4, 0, none⟩ (.bool true)) #[.slice A n c, .string ⟨#[]⟩, .nilIface, .pointer none, .string t, .bool false, .int .u8 0, .int .u8 0] 109
    simpa [hs2] using this
  intro v2 w2 hown2 hgr2 _
  -- the blocks behind the append
  have hh3 := set_same hh2 (i := 0) (.bool true)
  have hm3 := set_other (i := 0) (show b + 2 ≠ b + 4 by omega) hm2 (.bool true)
  have hx3 := set_other (i := 0) (show b + 3 ≠ b + 4 by omega) hx2 (.bool true)
  have hk3 := set_other (i := 0) (show b ≠ b + 4 by omega) hk2 (.bool true)
  have hz3 : (W.setCell ⟨b + 4, 0, none⟩ (.bool true)).heap.size = G + 1 := by simpa [World.setCell] using hs2
  have old : ∀ {g : Nat} {o : Obj}, g < G + 1 → (W.setCell ⟨b + 4, 0, none⟩ (.bool true)).heap[g]? = some o → w2.heap[g]? = some o := fun {g o} hg ho => by
    rw [hgr2.block g (by simp [hz3]; omega) (fun h => by cases h), Below.heap_alloc _ _ _ (by omega)]; exact ho
  have hh4 := old (by omega) hh3
  have hm4 := old (by omega) hm3
  have hx4 := old (by omega) hx3
  have hk4 := old (by omega) hk3
  obtain ⟨g, cap, rfl⟩ : ∃ g cap, v2 = .slice (some ⟨g, 0, none⟩) 1 cap := by
    rcases hown2.2 with ⟨_, h0⟩ | ⟨g, cap, cur, hv, _⟩
    · omega
    · exact ⟨g, cap, hv⟩
  have cm4 : w2.cell? ⟨b + 2, 0, none⟩ = some (.slice none 0 0) := by rw [Lib.cell_of_heap hm4]; rfl
  have fm4 : w2.frozen? ⟨b + 2, 0, none⟩ = false := Lib.frozen_of_heap hm4 0
  have K4 : Hid (Kept b w w2) := Lib.hid (((K2.out.set (p := ⟨b + 4, 0, none⟩) (by simp) (by simp) (.bool true)).alloc _).trans ⟨hgr2.os, hgr2.tape, hgr2.output, hgr2.size, fun g hg _ => hgr2.block g hg (fun h => by cases h)⟩)
  have hm5 := set_same hm4 (i := 0) (.slice (some ⟨g, 0, none⟩) 1 cap)
  have hx5 := set_other (i := 0) (show b + 3 ≠ b + 2 by omega) hx4 (.slice (some ⟨g, 0, none⟩) 1 cap)
  have hk5 := set_other (i := 0) (show b ≠ b + 2 by omega) hk4 (.slice (some ⟨g, 0, none⟩) 1 cap)
  have hh5 := set_other (i := 0) (show b + 4 ≠ b + 2 by omega) hh4 (.slice (some ⟨g, 0, none⟩) 1 cap)
  clear hown2 hgr2 old
  go_wp2_with fail
  refine leaves_cons (f := 11) (args := #[.pointer (some ⟨b + 3, 0, none⟩)]) (by simp) (by simp [go_sem]) ?_
  refine (unlock_deferred Tryf.muLib ⟨b + 3, 0, none⟩ .returning _ (by rw [Lib.cell_of_heap hx5]; rfl) (Lib.frozen_of_heap hx5 0)).mono ?_
  rintro e u' w'' ⟨rfl, rfl, rfl⟩
  exact ⟨_, results_none rfl _ _ _, rfl, LogAt.unlock hk5 ⟨_, _, hm5⟩ hx5 hh5, (K4.out.set (by simp) (by simp) _).set (by simp) (by simp) _⟩
end Go.Proofs.YtnccjpkeaapefaaFmt
