/- The log's closures and AddError, for any number of messages. -/
import Derived.Test.YtfkchhmjfnkjbaaFmtVl
import Derived.Deep.AppendLies
import Derived.Deep.RegionWith
namespace Go.Proofs.YtfkchhmjfnkjbaaFmt
open Go.RowKit Go.MuLone
set_option linter.unusedVariables false
set_option linter.unusedSimpArgs false
theorem sortAny (A : Option Addr) (n c : Nat) (base t : Nat) (xs : List Value) (w : World) (ho : w.ownsRow base t 8 (.slice A n c) n xs) (hx : MsgsNil xs n) (hn : n ≤ 1048576) :
    Calls Tryf.prog 18 #[.iface 47 (.slice A n c)] w fun e w' => e = .returned (.tuple #[]) ∧ Below w.heap.size w w' := by
  by_cases h1 : n ≤ 1
  · refine (sortStable0 A n c h1 w).mono ?_
    rintro e w' ⟨rfl, rfl⟩
    exact ⟨rfl, Below.refl _ _⟩
  · rcases ho.2 with ⟨_, h0⟩ | ⟨g, cap, cur, hv, _⟩
    · omega
    · injection hv with hv
      subst hv
      exact sortStable g n c w (hx.row ho) hn
set_option maxHeartbeats 1000000 in
theorem doneLog (b n : Nat) (hn : n ≤ 1048576) (w : World) (h : LogN b n w) :
    Calls Tryf.prog 17 #[pt (b + 3), pt (b + 2)] w fun e w' => (∃ A c, e = .returned (.slice A n c)) ∧ Kept b w w' := by
  have cx : w.cell? ⟨b + 3, 0, none⟩ = some (.int .i32 0) := by rw [Lib.cell_of_heap h.x]; rfl
  obtain ⟨A, c, xs, hm, ho, hx⟩ := h.m
  have fx : w.frozen? ⟨b + 3, 0, none⟩ = false := Lib.frozen_of_heap h.x 0
  have hx1 : (w.setCell ⟨b + 3, 0, none⟩ (.int .i32 1)).heap[b + 3]? = some (.cells #[.int .i32 1, .int .u32 0] 54 (0, 0)) := set_same h.x _
  have hm1 : (w.setCell ⟨b + 3, 0, none⟩ (.int .i32 1)).heap[b + 2]? = some (.cells #[.slice A n c] 47 (0, 0)) := set_other (by omega) hm _
  have cm : (w.setCell ⟨b + 3, 0, none⟩ (.int .i32 1)).cell? ⟨b + 2, 0, none⟩ = some (.slice A n c) := by rw [Lib.cell_of_heap hm1]; rfl
  have HO1 : Hid ((w.setCell ⟨b + 3, 0, none⟩ (.int .i32 1)).ownsRow (b + 5) 61 8 (.slice A n c) n xs) := Lib.hid (ownsRow_setCell_below ho (by simp) _)
  have K1 : Hid (Kept b w (w.setCell ⟨b + 3, 0, none⟩ (.int .i32 1))) := Lib.hid ((Kept.refl b w).set (by simp) (by simp) _)
  have HX := Lib.hid hx1
  have HM := Lib.hid hm1
  have MX := Lib.hid hx
  clear h hm hx1 hm1 ho hx
  unfold pt
  go_enter_defers Tryf.func17, Tryf.ntmps17
  go_wp2_with (first | (go_at_call 13; refine (lock_free Tryf.muLib _ _ cx fx).mono ?_; rintro e w' ⟨rfl, rfl⟩) | (go_at_call 18; refine (sortAny A n c _ _ xs _ HO1.out MX.out hn).mono ?_; rintro e w2 ⟨rfl, hb2⟩; have cm2 : w2.cell? ⟨b + 2, 0, none⟩ = some (.slice A n c) := (by rw [Lib.cell_of_heap ((hb2.block _ (lt_of_heap HM.out)).trans HM.out)]; rfl); have HX2 := Lib.hid ((hb2.block _ (lt_of_heap HX.out)).trans HX.out); have K2 := Lib.hid (K1.out.trans (Kept.of_below hb2)); clear hb2))
  refine leaves_cons (f := 14) (args := #[.pointer (some ⟨b + 3, 0, none⟩)]) (by simp) (by simp [go_sem]) ?_
  refine (unlock_deferred Tryf.muLib ⟨b + 3, 0, none⟩ .returning _ (by rw [Lib.cell_of_heap HX2.out]; rfl) (Lib.frozen_of_heap HX2.out 0)).mono ?_
  rintro e u' w'' ⟨rfl, rfl, rfl⟩
  exact ⟨_, results_tmp rfl _ _ _, ⟨_, _, rfl⟩, K2.out.set (by simp) (by simp) _⟩
theorem infoMsg : (Tryf.prog.info? 61).map (fun i => (i.zero, i.size, i.bytes)) = some (some (.agg #[.slice none 0 0, .string ⟨#[]⟩, .nilIface, .pointer none, .string ⟨#[]⟩, .bool false, .int .u8 0, .int .u8 0]), 8, 96) := by kernel_rfl
def msgC (t : ByteArray) : Array Value := #[.slice none 0 0, .string ⟨#[]⟩, .nilIface, .pointer none, .string t, .bool false, .int .u8 0, .int .u8 0]
set_option maxHeartbeats 2000000 in
theorem addMsg (b n : Nat) (w : World) (h : LogN b n w) (hn : n < 1048576) (t : ByteArray) :
    Calls Tryf.prog 12 #[.agg (msgC t), pt b, pt (b + 3), pt (b + 4), pt (b + 2)] w fun e w' => e = .returned (.tuple #[]) ∧ LogN b (n + 1) w' ∧ Kept b w w' := by
  obtain ⟨i0, hi, hz0, hz1, hz2⟩ := info_parts infoMsg
  have HI := Lib.hid hi
  have HZ0 := Lib.hid hz0
  have HZ1 := Lib.hid hz1
  have HZ2 := Lib.hid hz2
  clear hi hz0 hz1 hz2
  have hbl := h.lt
  have K1 : Hid (Kept b w (w.alloc (.cells (msgC t) 61))) := Lib.hid ((Kept.refl b w).alloc _)
  have h1 : LogN b n (w.alloc (.cells (msgC t) 61)) := h.below ((Below.refl _ _).alloc (Nat.le_refl _) _)
  obtain ⟨A, c, xs, hm1, ho1, hx⟩ := h1.m
  obtain ⟨he, hh1⟩ := h1.h
  have hg1 : (w.alloc (.cells (msgC t) 61)).heap[w.heap.size]? = some (.cells (msgC t) 61 (0, 0)) := heap_alloc_new w _
  have cx := (by rw [Lib.cell_of_heap h1.x]; rfl : (w.alloc (.cells (msgC t) 61)).cell? ⟨b + 3, 0, none⟩ = some (.int .i32 0))
  have fx : (w.alloc (.cells (msgC t) 61)).frozen? ⟨b + 3, 0, none⟩ = false := Lib.frozen_of_heap h1.x 0
  have ck : w.cell? ⟨b, 0, none⟩ = some (.int .u8 1) := by rw [Lib.cell_of_heap h.k]; rfl
  have hb0 : b < w.heap.size := by omega
  have hx2 : ((w.alloc (.cells (msgC t) 61)).setCell ⟨b + 3, 0, none⟩ (.int .i32 1)).heap[b + 3]? = some (.cells #[.int .i32 1, .int .u32 0] 54 (0, 0)) := set_same h1.x _
  have hm2 := set_other (i := 0) (show b + 2 ≠ b + 3 by omega) hm1 (.int .i32 1)
  have hg2 := set_other (i := 0) (show w.heap.size ≠ b + 3 by omega) hg1 (.int .i32 1)
  have hk2 := set_other (i := 0) (show b ≠ b + 3 by omega) h1.k (.int .i32 1)
  have hh2 := set_other (i := 0) (show b + 4 ≠ b + 3 by omega) hh1 (.int .i32 1)
  have K2 : Hid (Kept b w ((w.alloc (.cells (msgC t) 61)).setCell ⟨b + 3, 0, none⟩ (.int .i32 1))) := Lib.hid (K1.out.set (by simp) (by simp) _)
  have HO2 : Hid (((w.alloc (.cells (msgC t) 61)).setCell ⟨b + 3, 0, none⟩ (.int .i32 1)).ownsRow (b + 5) 61 8 (.slice A n c) n xs) := Lib.hid (ownsRow_setCell_below ho1 (by simp) _)
  have hs2 : ((w.alloc (.cells (msgC t) 61)).setCell ⟨b + 3, 0, none⟩ (.int .i32 1)).heap.size = w.heap.size + 1 := by simp [World.setCell]
  have HX := Lib.hid hx
  clear h h1 hm1 hg1 hh1 ho1 hx
  unfold pt
  unfold msgC at *
  go_enter_defers Tryf.func12, Tryf.ntmps12
  go_wp2_with fail
  refine (lock_free Tryf.muLib _ _ cx fx).mono ?_
  rintro e w' ⟨rfl, rfl⟩
  generalize (w.alloc (.cells #[.slice none 0 0, .string ⟨#[]⟩, .nilIface, .pointer none, .string t, .bool false, .int .u8 0, .int .u8 0] 61)).setCell ⟨b + 3, 0, none⟩ (.int .i32 1) = W at *
  generalize w.heap.size = G at *
  have g0 : W.cell? ⟨G, 0, none⟩ = some (.slice none 0 0) := by rw [Lib.cell_of_heap hg2]; rfl
  have g1 : W.cell? ⟨G, 1, none⟩ = some (.string ⟨#[]⟩) := by rw [Lib.cell_of_heap hg2]; rfl
  have g2 : W.cell? ⟨G, 2, none⟩ = some .nilIface := by rw [Lib.cell_of_heap hg2]; rfl
  have g3 : W.cell? ⟨G, 3, none⟩ = some (.pointer none) := by rw [Lib.cell_of_heap hg2]; rfl
  have g4 : W.cell? ⟨G, 4, none⟩ = some (.string t) := by rw [Lib.cell_of_heap hg2]; rfl
  have g5 : W.cell? ⟨G, 5, none⟩ = some (.bool false) := by rw [Lib.cell_of_heap hg2]; rfl
  have g6 : W.cell? ⟨G, 6, none⟩ = some (.int .u8 0) := by rw [Lib.cell_of_heap hg2]; rfl
  have g7 : W.cell? ⟨G, 7, none⟩ = some (.int .u8 0) := by rw [Lib.cell_of_heap hg2]; rfl
  have ch : W.cell? ⟨b + 4, 0, none⟩ = some (.bool he) := by rw [Lib.cell_of_heap hh2]; rfl
  have fh : W.frozen? ⟨b + 4, 0, none⟩ = false := Lib.frozen_of_heap hh2 0
  have cm : W.cell? ⟨b + 2, 0, none⟩ = some (.slice A n c) := by rw [Lib.cell_of_heap hm2]; rfl
  have HO3 : Hid ((W.setCell ⟨b + 4, 0, none⟩ (.bool true)).ownsRow (b + 5) 61 8 (.slice A n c) n xs) := Lib.hid (ownsRow_setCell_below HO2.out (by simp) _)
  have hz3 : (W.setCell ⟨b + 4, 0, none⟩ (.bool true)).heap.size = G + 1 := by simpa [World.setCell] using hs2
  go_wp2_with (at_builtin; (refine wpList_append_lies _ rfl (.tmp 22) (.tmp 24) 47 rfl (b + 5) 61 i0 _ 8 96 Tryf.underlying47 HI.out HZ0.out HZ1.out HZ2.out rfl (by decide) (.slice A n c) n xs rfl (HO3.out.alloc _) ⟨G + 1, 0, none⟩ 1 1 [.slice none 0 0, .string ⟨#[]⟩, .nilIface, .pointer none, .string t, .bool false, .int .u8 0, .int .u8 0] rfl rfl (World.news_of_block (cs := #[.slice none 0 0, .string ⟨#[]⟩, .nilIface, .pointer none, .string t, .bool false, .int .u8 0, .int .u8 0]) (t := 61) (fr := (0, 0)) (heap_alloc_at hz3.symm)) (by simp [Value.oneCell']) (by omega) (by unfold maxLen; omega) (by omega) (by simp [hz3]; omega) (G + 2) (by simp [hz3]) ?_))
  intro g cap w2 hown2 hgr2 hat hlt2
  -- the blocks behind the append
  have hh3 := set_same hh2 (i := 0) (.bool true)
  have hm3 := set_other (i := 0) (show b + 2 ≠ b + 4 by omega) hm2 (.bool true)
  have hx3 := set_other (i := 0) (show b + 3 ≠ b + 4 by omega) hx2 (.bool true)
  have hk3 := set_other (i := 0) (show b ≠ b + 4 by omega) hk2 (.bool true)
  have old : ∀ {g : Nat} {o : Obj}, g < G + 1 → g < b + 5 → (W.setCell ⟨b + 4, 0, none⟩ (.bool true)).heap[g]? = some o → w2.heap[g]? = some o := fun {g o} hg hgb ho => by
    rw [hgr2.block g (by simp [hz3]; omega) (fun h => by have := (HO3.out.lt g h.symm).1; omega), Below.heap_alloc _ _ _ (by omega)]; exact ho
  have hh4 := old (by omega) (by omega) hh3
  have hm4 := old (by omega) (by omega) hm3
  have hx4 := old (by omega) (by omega) hx3
  have hk4 := old (by omega) (by omega) hk3
  have cm4 : w2.cell? ⟨b + 2, 0, none⟩ = some (.slice A n c) := by rw [Lib.cell_of_heap hm4]; rfl
  have fm4 : w2.frozen? ⟨b + 2, 0, none⟩ = false := Lib.frozen_of_heap hm4 0
  have K4 : Hid (Kept b w w2) := Lib.hid (((K2.out.set (p := ⟨b + 4, 0, none⟩) (by simp) (by simp) (.bool true)).alloc _).grown (HO3.out.alloc _) hgr2)
  have hm5 := set_same hm4 (i := 0) (.slice (some ⟨g, 0, none⟩) (n + 1) cap)
  have hx5 := set_other (i := 0) (show b + 3 ≠ b + 2 by omega) hx4 (.slice (some ⟨g, 0, none⟩) (n + 1) cap)
  have hk5 := set_other (i := 0) (show b ≠ b + 2 by omega) hk4 (.slice (some ⟨g, 0, none⟩) (n + 1) cap)
  have hh5 := set_other (i := 0) (show b + 4 ≠ b + 2 by omega) hh4 (.slice (some ⟨g, 0, none⟩) (n + 1) cap)
  have HO5 := Lib.hid (ownsRow_setCell_below hown2 (a := ⟨b + 2, 0, none⟩) (by simp) (.slice (some ⟨g, 0, none⟩) (n + 1) cap))
  clear hown2 hgr2 old hat
  go_wp2_with fail
  refine leaves_cons (f := 14) (args := #[.pointer (some ⟨b + 3, 0, none⟩)]) (by simp) (by simp [go_sem]) ?_
  refine (unlock_deferred Tryf.muLib ⟨b + 3, 0, none⟩ .returning _ (by rw [Lib.cell_of_heap hx5]; rfl) (Lib.frozen_of_heap hx5 0)).mono ?_
  rintro e u' w'' ⟨rfl, rfl, rfl⟩
  exact ⟨_, results_none rfl _ _ _, rfl, ⟨set_other (by omega) hk5 _, ⟨_, _, _, set_other (by omega) hm5 _, ownsRow_setCell_below HO5.out (by simp) _, HX.out.snoc t⟩, set_same hx5 _, true, set_other (by omega) hh5 _⟩, (K4.out.set (by simp) (by simp) _).set (by simp) (by simp) _⟩
theorem below_step {w Y w' : World} (h : Below w.heap.size w Y) (k : Below Y.heap.size Y w') : Below w.heap.size w w' := h.trans (k.mono h.size)
theorem below_alloc {w Y : World} (h : Below w.heap.size w Y) (o : Obj) : Below w.heap.size w (Y.alloc o) := h.alloc h.size o
theorem locNil (w : World) (x y : Int) : Calls Tryf.prog 35 #[.pointer none, .agg #[.int .i32 x, .int .i32 y]] w fun e w' => e = .returned (.pointer none) ∧ Below w.heap.size w w' := by
  go_enter Tryf.func35, Tryf.ntmps35
  go_wp2_with fail
  go_ret
  exact ⟨rfl, below_alloc (Below.refl _ _) _⟩
theorem msgData (w : World) (x y : Int) (t : ByteArray) : Calls Tryf.prog 24 #[.pointer none, .agg #[.int .i32 x, .int .i32 y], .string t] w fun e w' => e = .returned (.agg #[.nilIface, .pointer none, .string t, .bool false]) ∧ Below w.heap.size w w' := by
  go_enter Tryf.func24, Tryf.ntmps24
  go_wp2_with fail
  refine (locNil _ _ _).mono ?_
  rintro e w1 ⟨rfl, hb⟩
  have h1 : w1.heap[w.heap.size + 1]? = some (.cells #[.nilIface, .pointer none, .string ⟨#[]⟩, .bool false] 58 (0, 0)) := (hb.block _ (by simp)).trans (heap_alloc_at (by simp))
  have HB : Hid (Below w.heap.size w w1) := Lib.hid (below_step (below_alloc (below_alloc (Below.refl _ _) _) _) hb)
  have c0 : w1.cell? ⟨w.heap.size + 1, 0, none⟩ = some .nilIface := by rw [Lib.cell_of_heap h1]; rfl
  have c1 : w1.cell? ⟨w.heap.size + 1, 1, none⟩ = some (.pointer none) := by rw [Lib.cell_of_heap h1]; rfl
  have c2 : w1.cell? ⟨w.heap.size + 1, 2, none⟩ = some (.string ⟨#[]⟩) := by rw [Lib.cell_of_heap h1]; rfl
  have c3 : w1.cell? ⟨w.heap.size + 1, 3, none⟩ = some (.bool false) := by rw [Lib.cell_of_heap h1]; rfl
  have f0 := Lib.frozen_of_heap h1 0
  have f1 := Lib.frozen_of_heap h1 1
  have f2 := Lib.frozen_of_heap h1 2
  have f3 := Lib.frozen_of_heap h1 3
  clear hb h1
  generalize hG : w.heap.size + 1 = G at *
  go_wp2_with fail
  refine bodyPost_ret (v := .agg #[.nilIface, .pointer none, .string t, .bool false]) (by simp [results, Tryf.results24, go_sem, c0, c1, c2, c3]) rfl ⟨rfl, ?_⟩
  exact (((HB.out.setCell (p := ⟨G, 0, none⟩) (by show _ ≤ G; omega) _).setCell (p := ⟨G, 1, none⟩) (by show _ ≤ G; omega) _).setCell (p := ⟨G, 2, none⟩) (by show _ ≤ G; omega) _).setCell (p := ⟨G, 3, none⟩) (by show _ ≤ G; omega) _

set_option maxHeartbeats 4000000 in
theorem addErr (b n : Nat) (w : World) (h : LogN b n w) (hn : n < 1048576) (x y : Int) (t : ByteArray) :
    Calls Tryf.prog 19 #[.agg (logC b), .pointer none, .agg #[.int .i32 x, .int .i32 y], .string t] w fun e w' => e = .returned (.tuple #[]) ∧ LogN b (n + 1) w' ∧ Kept b w w' := by
  have hbl := h.lt
  have H := Lib.hid h
  clear h
  unfold logC pt
  go_enter Tryf.func19, Tryf.ntmps19
  go_wp2_with fail
  go_region_with (first
    | (go_at_call 24; refine (msgData _ _ _ _).mono ?_; rintro e w1 ⟨rfl, hb1⟩; have hbl1 := below_step (Below.drew (below_alloc (below_alloc (Below.refl _ w) _) _)) hb1; have hk1 := Lib.hid (Kept.of_below (b := b) hbl1); have hl1 := Lib.hid (H.out.below hbl1); have hc1 : w1.cell? ⟨w.heap.size, 0, none⟩ = some (.func (Fn.func 12) #[] #[.pointer (some ⟨b, 0, none⟩), .pointer (some ⟨b + 3, 0, none⟩), .pointer (some ⟨b + 4, 0, none⟩), .pointer (some ⟨b + 2, 0, none⟩)]) := (by rw [Lib.cell_of_heap ((hb1.block w.heap.size (by simp; omega)).trans ((Below.heap_alloc _ _ _ (by simp)).trans (heap_alloc_at rfl)))]; rfl); clear hb1 hbl1)
    | (go_at_call 12; refine (addMsg b n _ hl1.out hn _).mono ?_; rintro e w2 ⟨rfl, hl2, hk2⟩))
  all_goals go_end0
  all_goals exact ⟨rfl, hl2, hk1.out.trans hk2⟩
end Go.Proofs.YtfkchhmjfnkjbaaFmt
