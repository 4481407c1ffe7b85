/- NewDeferLog and its closures. -/
import Derived.Test.YtnccjpkeaapefaaFmtRows
import Derived.Test.YtnccjpkeaapefaaFmtLocks
import Derived.WalkKit
import Derived.WalkLawsBesides
import Derived.WalkSpells
import Derived.Defers
import Derived.Recover
import Derived.Outline
import Derived.OwnWalk
import Derived.Below
import Derived.Lib.Hide
import Derived.Deep.QuietTactic
import Derived.BigQuiet
namespace Go.Proofs.YtnccjpkeaapefaaFmt
open Go.RowKit Go.MuLone
set_option linter.unusedVariables false
set_option linter.unusedSimpArgs false

@[go_sem] theorem run_store_func {P : Program} (a : Addr) (f : Fn) (x y : Array Value) (m : Mode) (w : World) : (store a (.func f x y) m).run P w = stored P w a (.func f x y) m := run_store P w a _ m rfl
@[go_sem] theorem run_store_map {P : Program} (a : Addr) (x : Option Nat) (m : Mode) (w : World) : (store a (.map x) m).run P w = stored P w a (.map x) m := run_store P w a _ m rfl
theorem makeFunc_run (fn : Fn) (first cap : Array Value) (w : World) : (Instr.makeFunc fn first cap).run Tryf.prog w = .ok (.func fn first cap) w := rfl
/-- The log's value: its closures over five blocks from b on. -/
def pt (b : Nat) : Value := .pointer (some ⟨b, 0, none⟩)
def logC (b : Nat) : Array Value := #[.func (Fn.func 9) #[] #[pt b, pt (b + 3), pt (b + 4), pt (b + 2)], .func (Fn.func 12) #[] #[pt (b + 3), pt (b + 4)], .func (Fn.func 13) #[] #[pt (b + 3), pt (b + 2)], .func (Fn.func 14) #[] #[pt (b + 3), pt (b + 2)], .int .i8 3, .map none]
/-- The log's blocks: n messages, and whether one was an error. -/
structure LogAt (b n : Nat) (he : Bool) (w : World) : Prop where
  k : w.heap[b]? = some (.cells #[.int .u8 0] 36 (0, 0))
  m : ∃ A c, w.heap[b + 2]? = some (.cells #[.slice A n c] 96 (0, 0))
  x : w.heap[b + 3]? = some (.cells #[.int .i32 0, .int .u32 0] 102 (0, 0))
  h : w.heap[b + 4]? = some (.cells #[.bool he] 4 (0, 0))
/-- All but the log's blocks stay as they were. -/
structure Kept (b : Nat) (w w' : World) : Prop where
  os : w'.os = w.os
  tape : w'.tape = w.tape
  output : w'.output = w.output
  size : w.heap.size ≤ w'.heap.size
  block : ∀ g, g < w.heap.size → (g < b ∨ b + 5 ≤ g) → w'.heap[g]? = w.heap[g]?
theorem Kept.refl (b : Nat) (w : World) : Kept b w w := ⟨rfl, rfl, rfl, Nat.le_refl _, fun _ _ _ => rfl⟩
theorem Kept.trans {b : Nat} {a c d : World} (h : Kept b a c) (k : Kept b c d) : Kept b a d :=
  ⟨k.os.trans h.os, k.tape.trans h.tape, k.output.trans h.output, Nat.le_trans h.size k.size, fun g hg hb => (k.block g (Nat.lt_of_lt_of_le hg h.size) hb).trans (h.block g hg hb)⟩
theorem Kept.set {b : Nat} {a c : World} (h : Kept b a c) {p : Addr} (h1 : b ≤ p.block) (h2 : p.block < b + 5) (v : Value) : Kept b a (c.setCell p v) :=
  ⟨h.os, h.tape, h.output, by simpa [World.setCell] using h.size, fun g hg hb => by rw [Below.heap_setCell _ _ _ _ (by omega)]; exact h.block g hg hb⟩
theorem Kept.alloc {b : Nat} {a c : World} (h : Kept b a c) (o : Obj) : Kept b a (c.alloc o) :=
  ⟨h.os, h.tape, h.output, Nat.le_trans h.size (by simp), fun g hg hb => by rw [Below.heap_alloc _ _ _ (Nat.lt_of_lt_of_le hg h.size)]; exact h.block g hg hb⟩
theorem Kept.drew {b : Nat} {a c : World} (h : Kept b a c) : Kept b a c.drew := ⟨h.os, h.tape, h.output, h.size, h.block⟩
theorem Kept.drewN {b : Nat} {a c : World} (h : Kept b a c) (n : Nat) : Kept b a (c.drewN n) := ⟨h.os, h.tape, h.output, h.size, h.block⟩
theorem Kept.of_below {b : Nat} {a c : World} (h : Below a.heap.size a c) : Kept b a c := ⟨h.os, h.tape, h.output, h.size, fun g hg _ => h.block g hg⟩
theorem Kept.below {b B : Nat} {a c : World} (h : Kept b a c) (hB : B ≤ b) (hs : B ≤ a.heap.size) : Below B a c := ⟨h.os, h.tape, h.output, h.size, fun g hg => h.block g (by omega) (by omega)⟩
theorem LogAt.keep {b n : Nat} {he : Bool} {w w' : World} (h : LogAt b n he w) (hk : ∀ g, g < w.heap.size → w'.heap[g]? = w.heap[g]?) : LogAt b n he w' := by
  have lt : ∀ {g : Nat} {o : Obj}, w.heap[g]? = some o → g < w.heap.size := fun {g o} hh => by
    rcases Nat.lt_or_ge g w.heap.size with hlt | hge
    · exact hlt
    · rw [Array.getElem?_eq_none hge] at hh; cases hh
  obtain ⟨A, c, hm⟩ := h.m
  exact ⟨by rw [hk _ (lt h.k)]; exact h.k, ⟨A, c, by rw [hk _ (lt hm)]; exact hm⟩, by rw [hk _ (lt h.x)]; exact h.x, by rw [hk _ (lt h.h)]; exact h.h⟩
theorem heap_alloc_at {w : World} {o : Obj} {k : Nat} (h : k = w.heap.size) : (w.alloc o).heap[k]? = some o := by
  subst h; exact heap_alloc_new w o
set_option maxHeartbeats 1000000 in
theorem newLog (w : World) : Calls Tryf.prog 7 #[.int .u8 0, .map none] w fun e w' => e = .returned (.agg (logC w.heap.size)) ∧ LogAt w.heap.size 0 false w' ∧ w'.heap[w.heap.size + 2]? = some (.cells #[.slice none 0 0] 96 (0, 0)) ∧ Below w.heap.size w w' ∧ w'.heap.size = w.heap.size + 5 := by
  have hmf := makeFunc_run
  go_enter Tryf.func7, Tryf.ntmps7
  go_wp2
  refine bodyPost_ret (v := .agg (logC w.heap.size)) (by simp [results, Tryf.results7, go_sem, logC, pt]) rfl ⟨rfl, ⟨?_, ⟨none, 0, ?_⟩, ?_, ?_⟩, ?_, ?_, ?_⟩
  · repeat' (first | exact heap_alloc_at (by simp; done) | refine (Below.heap_alloc _ _ _ (by simp <;> omega)).trans ?_)
  · repeat' (first | exact heap_alloc_at (by simp; done) | refine (Below.heap_alloc _ _ _ (by simp <;> omega)).trans ?_)
  · repeat' (first | exact heap_alloc_at (by simp; done) | refine (Below.heap_alloc _ _ _ (by simp <;> omega)).trans ?_)
  · repeat' (first | exact heap_alloc_at (by simp; done) | refine (Below.heap_alloc _ _ _ (by simp <;> omega)).trans ?_)
  · repeat' (first | exact heap_alloc_at (by simp; done) | refine (Below.heap_alloc _ _ _ (by simp <;> omega)).trans ?_)
  · repeat' (first | exact Below.refl _ _ | refine Below.alloc ?_ ?_ _ | (simp <;> omega))
  · simp

theorem frozen_at {w : World} {g i : Nat} {cs : Array Value} {t : Nat} (h : w.heap[g]? = some (.cells cs t (0, 0))) : w.frozen? ⟨g, i, none⟩ = false := Lib.frozen_of_heap h i
theorem set_same {w : World} {g i : Nat} {cs : Array Value} {t : Nat} (h : w.heap[g]? = some (.cells cs t (0, 0))) (v : Value) : (w.setCell ⟨g, i, none⟩ v).heap[g]? = some (.cells (cs.setIfInBounds i v) t (0, 0)) := Go.heap_setCell_same w g i cs t v h
theorem set_other {w : World} {g i k : Nat} {o : Obj} (hk : k ≠ g) (h : w.heap[k]? = some o) (v : Value) : (w.setCell ⟨g, i, none⟩ v).heap[k]? = some o := (Below.heap_setCell w ⟨g, i, none⟩ v k hk).trans h
theorem LogAt.lt {b n : Nat} {he : Bool} {w : World} (h : LogAt b n he w) : b + 4 < w.heap.size := by
  rcases Nat.lt_or_ge (b + 4) w.heap.size with hlt | hge
  · exact hlt
  · have := h.h; rw [Array.getElem?_eq_none hge] at this; cases this
/-- A world in which the log's mutex is held. -/
structure Held (b : Nat) (w : World) : Prop where
  x : w.heap[b + 3]? = some (.cells #[.int .i32 1, .int .u32 0] 102 (0, 0))
theorem LogAt.lock {b n : Nat} {he : Bool} {w : World} (h : LogAt b n he w) : (w.setCell ⟨b + 3, 0, none⟩ (.int .i32 1)).heap[b + 3]? = some (.cells #[.int .i32 1, .int .u32 0] 102 (0, 0)) := set_same h.x _
/-- Free again: the other blocks as given. -/
theorem LogAt.unlock {b n : Nat} {he : Bool} {w : World} (k : w.heap[b]? = some (.cells #[.int .u8 0] 36 (0, 0))) (m : ∃ A c, w.heap[b + 2]? = some (.cells #[.slice A n c] 96 (0, 0)))
    (x : w.heap[b + 3]? = some (.cells #[.int .i32 1, .int .u32 0] 102 (0, 0))) (h : w.heap[b + 4]? = some (.cells #[.bool he] 4 (0, 0))) : LogAt b n he (w.setCell ⟨b + 3, 0, none⟩ (.int .i32 0)) := by
  obtain ⟨A, c, hm⟩ := m
  exact ⟨set_other (by omega) k _, ⟨A, c, set_other (by omega) hm _⟩, set_same x _, set_other (by omega) h _⟩
set_option maxHeartbeats 1000000 in
theorem hasErr (b n : Nat) (he : Bool) (w : World) (h : LogAt b n he w) :
    Calls Tryf.prog 12 #[pt (b + 3), pt (b + 4)] w fun e w' => e = .returned (.bool he) ∧ LogAt b n he w' ∧ Kept b w w' := by
  have cx : w.cell? ⟨b + 3, 0, none⟩ = some (.int .i32 0) := by rw [Lib.cell_of_heap h.x]; rfl
  have ch : w.cell? ⟨b + 4, 0, none⟩ = some (.bool he) := by rw [Lib.cell_of_heap h.h]; rfl
  have fx : w.frozen? ⟨b + 3, 0, none⟩ = false := Lib.frozen_of_heap h.x 0
  have H := Lib.hid h
  have hx1 := h.lock
  clear h
  unfold pt
  go_enter_defers Tryf.func12, Tryf.ntmps12
  go_wp2_with (go_at_call 10; refine (lock_free Tryf.muLib _ _ cx fx).mono ?_; rintro e w' ⟨rfl, rfl⟩)
  refine leaves_cons (f := 11) (args := #[.pointer (some ⟨b + 3, 0, none⟩)]) (by simp) (by simp [go_sem]) ?_
  refine (unlock_deferred Tryf.muLib ⟨b + 3, 0, none⟩ .returning _ (by rw [Lib.cell_of_heap hx1]; rfl) (Lib.frozen_of_heap hx1 0)).mono ?_
  rintro e u' w'' ⟨rfl, rfl, rfl⟩
  obtain ⟨A, c, hm⟩ := H.out.m
  exact ⟨_, results_tmp rfl _ _ _, rfl, LogAt.unlock (set_other (by omega) H.out.k _) ⟨A, c, set_other (by omega) hm _⟩ hx1 (set_other (by omega) H.out.h _), ((Kept.refl b w).set (by simp) (by simp) _).set (by simp) (by simp) _⟩
end Go.Proofs.YtnccjpkeaapefaaFmt
