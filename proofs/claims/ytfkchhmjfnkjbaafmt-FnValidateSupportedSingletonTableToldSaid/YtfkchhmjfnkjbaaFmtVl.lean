/- NewDeferLog and its closures. -/
import Derived.Test.YtfkchhmjfnkjbaaFmtRows
import Derived.Test.YtfkchhmjfnkjbaaFmtVv
import Derived.Test.YtfkchhmjfnkjbaaFmtLocks
import Derived.WalkKit
import Derived.WalkLawsBesides
import Derived.WalkSpells
import Derived.Defers
import Derived.Recover
import Derived.Outline
import Derived.OwnWalk
import Derived.Below
import Derived.Lib.Hide
import Derived.Deep.QuietTactic
import Derived.BigQuiet
namespace Go.Proofs.YtfkchhmjfnkjbaaFmt
open Go.RowKit Go.MuLone
set_option linter.unusedVariables false
set_option linter.unusedSimpArgs false

@[go_sem] theorem run_store_func {P : Program} (a : Addr) (f : Fn) (x y : Array Value) (m : Mode) (w : World) : (store a (.func f x y) m).run P w = stored P w a (.func f x y) m := run_store P w a _ m rfl
@[go_sem] theorem run_store_map {P : Program} (a : Addr) (x : Option Nat) (m : Mode) (w : World) : (store a (.map x) m).run P w = stored P w a (.map x) m := run_store P w a _ m rfl
theorem makeFunc_run (fn : Fn) (first cap : Array Value) (w : World) : (Instr.makeFunc fn first cap).run Tryf.prog w = .ok (.func fn first cap) w := rfl
/-- The log's value: its closures over five blocks from b on. -/
def pt (b : Nat) : Value := .pointer (some ⟨b, 0, none⟩)
def logC (b : Nat) : Array Value := #[.func (Fn.func 12) #[] #[pt b, pt (b + 3), pt (b + 4), pt (b + 2)], .func (Fn.func 15) #[] #[pt (b + 3), pt (b + 4)], .func (Fn.func 16) #[] #[pt (b + 3), pt (b + 2)], .func (Fn.func 17) #[] #[pt (b + 3), pt (b + 2)], .int .i8 3, .map none]
/-- Eight cells a message, none with a location. -/
def MsgsNil (xs : List Value) (n : Nat) : Prop := xs.length = n * 8 ∧ ∀ i, i < n → ∃ t, xs[i * 8]? = some (.slice none 0 0) ∧ xs[i * 8 + 1]? = some (.string ⟨#[]⟩) ∧ xs[i * 8 + 2]? = some .nilIface ∧ xs[i * 8 + 3]? = some (.pointer none) ∧ xs[i * 8 + 4]? = some (.string t) ∧ xs[i * 8 + 5]? = some (.bool false) ∧ xs[i * 8 + 6]? = some (.int .u8 0) ∧ xs[i * 8 + 7]? = some (.int .u8 0)
theorem MsgsNil.nil : MsgsNil [] 0 := ⟨rfl, fun i hi => absurd hi (by omega)⟩
theorem MsgsNil.snoc {xs : List Value} {n : Nat} (h : MsgsNil xs n) (t : ByteArray) : MsgsNil (xs ++ [.slice none 0 0, .string ⟨#[]⟩, .nilIface, .pointer none, .string t, .bool false, .int .u8 0, .int .u8 0]) (n + 1) := by
  have hlen := h.1
  refine ⟨by simp; omega, fun i hi => ?_⟩
  by_cases hk : i < n
  · obtain ⟨t', h0, h1, h2, h3, h4, h5, h6, h7⟩ := h.2 i hk
    refine ⟨t', ?_, ?_, ?_, ?_, ?_, ?_, ?_, ?_⟩ <;> rw [List.getElem?_append_left (by omega)] <;> assumption
  · obtain rfl : i = n := by omega
    refine ⟨t, ?_, ?_, ?_, ?_, ?_, ?_, ?_, ?_⟩ <;> rw [List.getElem?_append_right (by omega), hlen] <;> simp [Nat.add_sub_cancel_left]
theorem MsgsNil.row {w : World} {xs : List Value} {n g c t base : Nat} (h : MsgsNil xs n) (ho : w.ownsRow base t 8 (.slice (some ⟨g, 0, none⟩) n c) n xs) : NilRow w g n := by
  have hlen := h.1
  refine ⟨(ho.lt g rfl).2, fun i hi => ?_⟩
  obtain ⟨t', h0, h1, h2, h3, h4, h5, h6, h7⟩ := h.2 i hi
  exact ⟨t', (ho.cellAt _ (by omega)).trans h0, (ho.cellAt _ (by omega)).trans h1, (ho.cellAt _ (by omega)).trans h2, (ho.cellAt _ (by omega)).trans h3, (ho.cellAt _ (by omega)).trans h4, (ho.cellAt _ (by omega)).trans h5, (ho.cellAt _ (by omega)).trans h6, (ho.cellAt _ (by omega)).trans h7⟩
/-- The log's blocks: n messages. -/
structure LogN (b n : Nat) (w : World) : Prop where
  k : w.heap[b]? = some (.cells #[.int .u8 1] 43 (0, 0))
  m : ∃ A c xs, w.heap[b + 2]? = some (.cells #[.slice A n c] 47 (0, 0)) ∧ w.ownsRow (b + 5) 61 8 (.slice A n c) n xs ∧ MsgsNil xs n
  x : w.heap[b + 3]? = some (.cells #[.int .i32 0, .int .u32 0] 54 (0, 0))
  h : ∃ he, w.heap[b + 4]? = some (.cells #[.bool he] 4 (0, 0))
/-- All but the log's blocks and rows of messages stay as they were. -/
structure Kept (b : Nat) (w w' : World) : Prop where
  os : w'.os = w.os
  tape : w'.tape = w.tape
  output : w'.output = w.output
  size : w.heap.size ≤ w'.heap.size
  block : ∀ g, g < w.heap.size → (g < b ∨ b + 5 ≤ g) → (∀ cur, w.heap[g]? ≠ some (.cells cur 61 (0, 0))) → w'.heap[g]? = w.heap[g]?
  low : ∀ g, g < w.heap.size → g < b → w'.heap[g]? = w.heap[g]?
theorem Kept.refl (b : Nat) (w : World) : Kept b w w := ⟨rfl, rfl, rfl, Nat.le_refl _, fun _ _ _ _ => rfl, fun _ _ _ => rfl⟩
theorem Kept.trans {b : Nat} {a c d : World} (h : Kept b a c) (k : Kept b c d) : Kept b a d :=
  ⟨k.os.trans h.os, k.tape.trans h.tape, k.output.trans h.output, Nat.le_trans h.size k.size, fun g hg hb ht => (k.block g (Nat.lt_of_lt_of_le hg h.size) hb (fun cur => by rw [h.block g hg hb ht]; exact ht cur)).trans (h.block g hg hb ht), fun g hg hb => (k.low g (Nat.lt_of_lt_of_le hg h.size) hb).trans (h.low g hg hb)⟩
theorem Kept.set {b : Nat} {a c : World} (h : Kept b a c) {p : Addr} (h1 : b ≤ p.block) (h2 : p.block < b + 5) (v : Value) : Kept b a (c.setCell p v) :=
  ⟨h.os, h.tape, h.output, by simpa [World.setCell] using h.size, fun g hg hb ht => by rw [Below.heap_setCell _ _ _ _ (by omega)]; exact h.block g hg hb ht, fun g hg hb => by rw [Below.heap_setCell _ _ _ _ (by omega)]; exact h.low g hg hb⟩
theorem Kept.alloc {b : Nat} {a c : World} (h : Kept b a c) (o : Obj) : Kept b a (c.alloc o) :=
  ⟨h.os, h.tape, h.output, Nat.le_trans h.size (by simp), fun g hg hb ht => by rw [Below.heap_alloc _ _ _ (Nat.lt_of_lt_of_le hg h.size)]; exact h.block g hg hb ht, fun g hg hb => by rw [Below.heap_alloc _ _ _ (Nat.lt_of_lt_of_le hg h.size)]; exact h.low g hg hb⟩
theorem Kept.drew {b : Nat} {a c : World} (h : Kept b a c) : Kept b a c.drew := ⟨h.os, h.tape, h.output, h.size, h.block, h.low⟩
theorem Kept.of_below {b : Nat} {a c : World} (h : Below a.heap.size a c) : Kept b a c := ⟨h.os, h.tape, h.output, h.size, fun g hg _ _ => h.block g hg, fun g hg _ => h.block g hg⟩
theorem Kept.below {b B : Nat} {a c : World} (h : Kept b a c) (hB : B ≤ b) (hs : B ≤ a.heap.size) : Below B a c := ⟨h.os, h.tape, h.output, h.size, fun g hg => h.low g (by omega) (by omega)⟩
theorem Kept.grown {b n : Nat} {a w w' : World} {v : Value} {xs : List Value} (h : Kept b a w) (ho : w.ownsRow (b + 5) 61 8 v n xs) (hg : w.grownBy w' v.ownBlock) : Kept b a w' := by
  refine h.trans ⟨hg.os, hg.tape, hg.output, hg.size, fun g hlt hb ht => hg.block g hlt fun e => ?_, fun g hlt hb => hg.block g hlt fun e => ?_⟩
  · rcases ho.2 with ⟨rfl, _⟩ | ⟨g', cap, cur', rfl, _, hgg, _⟩
    · simp [Value.ownBlock] at e
    · simp [Value.ownBlock] at e
      subst e
      exact ht _ hgg
  · have := (ho.lt g e.symm).1
    omega
theorem lt_of_heap {w : World} {g : Nat} {o : Obj} (hh : w.heap[g]? = some o) : g < w.heap.size := (Array.getElem?_eq_some_iff.1 hh).1
theorem own_below {base t0 size n : Nat} {w w' : World} {v : Value} {xs : List Value} (h : w.ownsRow base t0 size v n xs) (hb : Below w.heap.size w w') : w'.ownsRow base t0 size v n xs :=
  h.kept (row := none) ⟨hb.os, hb.tape, hb.output, hb.size, fun i hi _ => hb.block i hi⟩ (by cases v.ownBlock <;> simp)
theorem LogN.below {b n : Nat} {w w' : World} (h : LogN b n w) (hb : Below w.heap.size w w') : LogN b n w' := by
  obtain ⟨A, c, xs, hm, ho, hx⟩ := h.m
  obtain ⟨he, hh⟩ := h.h
  exact ⟨(hb.block _ (lt_of_heap h.k)).trans h.k, ⟨A, c, xs, (hb.block _ (lt_of_heap hm)).trans hm, own_below ho hb, hx⟩, (hb.block _ (lt_of_heap h.x)).trans h.x, he, (hb.block _ (lt_of_heap hh)).trans hh⟩
theorem LogN.lt {b n : Nat} {w : World} (h : LogN b n w) : b + 4 < w.heap.size := by
  obtain ⟨he, hh⟩ := h.h
  exact lt_of_heap hh
theorem heap_alloc_at {w : World} {o : Obj} {k : Nat} (h : k = w.heap.size) : (w.alloc o).heap[k]? = some o := by
  subst h; exact heap_alloc_new w o
set_option maxHeartbeats 1000000 in
theorem newLog (w : World) : Calls Tryf.prog 10 #[.int .u8 1, .map none] w fun e w' => e = .returned (.agg (logC w.heap.size)) ∧ LogN w.heap.size 0 w' ∧ Below w.heap.size w w' ∧ w'.heap.size = w.heap.size + 5 := by
  have hmf := makeFunc_run
  go_enter Tryf.func10, Tryf.ntmps10
  go_wp2
  refine bodyPost_ret (v := .agg (logC w.heap.size)) (by simp [results, Tryf.results10, go_sem, logC, pt]) rfl ⟨rfl, ⟨?_, ⟨none, 0, [], ?_, World.ownsRow_nil _ _ _ _, MsgsNil.nil⟩, ?_, false, ?_⟩, ?_, ?_⟩
  · repeat' (first | exact heap_alloc_at (by simp; done) | refine (Below.heap_alloc _ _ _ (by simp <;> omega)).trans ?_)
  · repeat' (first | exact heap_alloc_at (by simp; done) | refine (Below.heap_alloc _ _ _ (by simp <;> omega)).trans ?_)
  · repeat' (first | exact heap_alloc_at (by simp; done) | refine (Below.heap_alloc _ _ _ (by simp <;> omega)).trans ?_)
  · repeat' (first | exact heap_alloc_at (by simp; done) | refine (Below.heap_alloc _ _ _ (by simp <;> omega)).trans ?_)
  · repeat' (first | exact Below.refl _ _ | refine Below.alloc ?_ ?_ _ | (simp <;> omega))
  · simp
theorem frozen_at {w : World} {g i : Nat} {cs : Array Value} {t : Nat} (h : w.heap[g]? = some (.cells cs t (0, 0))) : w.frozen? ⟨g, i, none⟩ = false := Lib.frozen_of_heap h i
theorem set_same {w : World} {g i : Nat} {cs : Array Value} {t : Nat} (h : w.heap[g]? = some (.cells cs t (0, 0))) (v : Value) : (w.setCell ⟨g, i, none⟩ v).heap[g]? = some (.cells (cs.setIfInBounds i v) t (0, 0)) := Go.heap_setCell_same w g i cs t v h
theorem set_other {w : World} {g i k : Nat} {o : Obj} (hk : k ≠ g) (h : w.heap[k]? = some o) (v : Value) : (w.setCell ⟨g, i, none⟩ v).heap[k]? = some o := (Below.heap_setCell w ⟨g, i, none⟩ v k hk).trans h
end Go.Proofs.YtfkchhmjfnkjbaaFmt
