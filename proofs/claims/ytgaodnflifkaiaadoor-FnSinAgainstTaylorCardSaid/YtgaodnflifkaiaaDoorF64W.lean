/- The walk's laws for float64: each operation gives some 'r' with 'FR op x y r'. No program in sight. -/
import Derived.Test.YtgaodnflifkaiaaDoorF64C
import Derived.WalkKit
import Derived.WalkLawsBesides
import Derived.Deep.Draws
namespace Go.Fl
open Go.RowKit

/-- What the model gives in the world w. -/
def fop (op : BinOp) (w : World) (x y : Nat) : Nat :=
  match floatBits op .f64 x y with
  | some r => r
  | none => Question.cut (.nanBits .f64 x y) (w.tape w.drawn (.nanBits .f64 x y))
def fdr (op : BinOp) (x y : Nat) : Nat := if (floatBits op .f64 x y).isSome then 0 else 1

theorem fop_FR (op : BinOp) (w : World) (x y : Nat) : FR op x y (fop op w x y) := by
  unfold fop
  cases hz : floatBits op .f64 x y with
  | none =>
    simp only
    exact ⟨(nan_cut x y _).2, (fun z h => by rw [hz] at h; cases h), fun _ => (nan_cut x y _).1⟩
  | some r =>
    simp only
    refine ⟨?_, (fun z h => by rw [hz] at h; exact Option.some.inj h), (fun h => by rw [hz] at h; cases h)⟩
    have := floatBits_wf hz
    simpa [Lit.wf] using this

theorem run_f {P : Program} (op : BinOp) (hop : op = .add ∨ op = .sub ∨ op = .mul ∨ op = .quo) (t : TypeId) (x y : Nat) (w : World) :
    (binOp op t (.float .f64 x) (.float .f64 y)).run P w = .ok (.float .f64 (fop op w x y)) (w.drewN (fdr op x y)) := by
  cases hz : floatBits op .f64 x y with
  | some r =>
    rw [run_float_arith w op t .f64 x y r hz]
    simp [fop, fdr, hz, World.drewN]
  | none =>
    have hn : ∀ g : Option Nat, g = floatBits op .f64 x y → (binOp op t (.float .f64 x) (.float .f64 y)).run P w = .ok (.float .f64 (fop op w x y)) (w.drewN (fdr op x y)) := by
      intro g hg
      rw [hz] at hg
      simp only [fop, fdr, hz]
      rcases hop with rfl | rfl | rfl | rfl <;> (simp only [floatBits] at hz; simp [binOp, Op.floatArith, hz, Question.forced]; rfl)
    exact hn _ rfl

@[go_sem] theorem run_f_add {P : Program} (t : TypeId) (x y : Nat) (w : World) : (binOp .add t (.float .f64 x) (.float .f64 y)).run P w = .ok (.float .f64 (fop .add w x y)) (w.drewN (fdr .add x y)) := run_f .add (by simp) t x y w
@[go_sem] theorem run_f_sub {P : Program} (t : TypeId) (x y : Nat) (w : World) : (binOp .sub t (.float .f64 x) (.float .f64 y)).run P w = .ok (.float .f64 (fop .sub w x y)) (w.drewN (fdr .sub x y)) := run_f .sub (by simp) t x y w
@[go_sem] theorem run_f_mul {P : Program} (t : TypeId) (x y : Nat) (w : World) : (binOp .mul t (.float .f64 x) (.float .f64 y)).run P w = .ok (.float .f64 (fop .mul w x y)) (w.drewN (fdr .mul x y)) := run_f .mul (by simp) t x y w
@[go_sem] theorem run_f_quo {P : Program} (t : TypeId) (x y : Nat) (w : World) : (binOp .quo t (.float .f64 x) (.float .f64 y)).run P w = .ok (.float .f64 (fop .quo w x y)) (w.drewN (fdr .quo x y)) := run_f .quo (by simp) t x y w
@[go_sem] theorem run_store_float {P : Program} (a : Addr) (k : FloatKind) (n : Nat) (m : Mode) (w : World) : (store a (.float k n) m).run P w = stored P w a (.float k n) m := run_store P w a _ m rfl

@[go_sem] theorem unary_neg_float (k : FloatKind) (b : Nat) : Op.unary .neg (.float k b) = pure (.float k (Op.negFloat k b)) := rfl
attribute [go_sem] cmp_lt cmp_eq cmp_gt cmp_ne
@[go_sem] theorem nan_c0 : nan 0 = false := by decide
@[go_sem] theorem key_c0 : key 0 = 0 := by decide

/-- A result that is a struct of one float, from an operation on two. -/
def Gives (op : BinOp) (x y : Nat) (w : World) (e : Ending) (w' : World) : Prop :=
  ∃ r, FR op x y r ∧ e = .returned (.agg #[.float .f64 r]) ∧ Below w.heap.size w w'
theorem ret_bool {a b : Bool} (h : a = true ↔ b = true) : Ending.returned (.bool a) = .returned (.bool b) := by rw [Bool.eq_iff_iff.2 h]

/-- The same, the float known. -/
def GivesJust (r : Nat) (w : World) (e : Ending) (w' : World) : Prop := e = .returned (.agg #[.float .f64 r]) ∧ Below w.heap.size w w'

/-- A cell of the call's own that is read later, and all that was there before. -/
theorem hold_below {A : Addr} {v : Value} {w0 w w' : World} (h : w.cell? A = some v ∧ A.block < w.heap.size ∧ Below w0.heap.size w0 w) (hb : Below w.heap.size w w') : w'.cell? A = some v ∧ A.block < w'.heap.size ∧ Below w0.heap.size w0 w' :=
  ⟨(hb.cell h.2.1).trans h.1, Nat.lt_of_lt_of_le h.2.1 hb.size, h.2.2.trans (hb.mono h.2.2.size)⟩
theorem hold_alloc {A : Addr} {v : Value} {w0 w : World} (h : w.cell? A = some v ∧ A.block < w.heap.size ∧ Below w0.heap.size w0 w) (o : Obj) : (w.alloc o).cell? A = some v ∧ A.block < (w.alloc o).heap.size ∧ Below w0.heap.size w0 (w.alloc o) :=
  hold_below h ((Below.refl _ _).alloc (Nat.le_refl _) o)
/-- Two such cells, the second in the later block. -/
theorem hold2_below {A B : Addr} {u v : Value} {w0 w w' : World} (hab : A.block ≤ B.block) (h : w.cell? A = some u ∧ w.cell? B = some v ∧ B.block < w.heap.size ∧ Below w0.heap.size w0 w) (hb : Below w.heap.size w w') : w'.cell? A = some u ∧ w'.cell? B = some v ∧ B.block < w'.heap.size ∧ Below w0.heap.size w0 w' :=
  ⟨(hb.cell (Nat.lt_of_le_of_lt hab h.2.2.1)).trans h.1, (hb.cell h.2.2.1).trans h.2.1, Nat.lt_of_lt_of_le h.2.2.1 hb.size, h.2.2.2.trans (hb.mono h.2.2.2.size)⟩
theorem hold2_alloc {A B : Addr} {u v : Value} {w0 w : World} (hab : A.block ≤ B.block) (h : w.cell? A = some u ∧ w.cell? B = some v ∧ B.block < w.heap.size ∧ Below w0.heap.size w0 w) (o : Obj) : (w.alloc o).cell? A = some u ∧ (w.alloc o).cell? B = some v ∧ B.block < (w.alloc o).heap.size ∧ Below w0.heap.size w0 (w.alloc o) :=
  hold2_below hab h ((Below.refl _ _).alloc (Nat.le_refl _) o)

/-- A new block's one cell; an older cell. -/
theorem cell_at (w : World) (v : Value) (T : TypeId) (k : Nat) (hk : w.heap.size = k) : (w.alloc (.cells #[v] T)).cell? ⟨k, 0, none⟩ = some v := by
  subst hk; simp
theorem cell_lt (w : World) (o : Obj) (a : Addr) (h : a.block < w.heap.size) : (w.alloc o).cell? a = w.cell? a :=
  ((Below.refl w.heap.size w).alloc (Nat.le_refl _) o).cell h

theorem below_step {w Y w' : World} (h : Below w.heap.size w Y) (k : Below Y.heap.size Y w') : Below w.heap.size w w' := h.trans (k.mono h.size)
theorem below_alloc {w Y : World} (h : Below w.heap.size w Y) (o : Obj) : Below w.heap.size w (Y.alloc o) := h.alloc h.size o

end Go.Fl
