/- Words for memory: a slice that came in as a function of its index; openers for a law's arguments. -/
import Derived.Below
import Derived.Laws.OwnMore
import Derived.Deep.Draws
import Derived.Deep.OwnRows
import Derived.Laws.Rows
import Derived.Deep.Slices
import Derived.SliceStrings
import Derived.ProofKit
import Derived.Lib.Hide
import Derived.Laws.BytesArg
import Derived.OpenShut
namespace Go.Proofs.Ytippmlajjkdblaa
open Go.RowKit Go.ChangeShapes Go.WideShapes Go.Deep
set_option linter.unusedVariables false

theorem add_block (a : Addr) (n : Nat) : (a.add n).block = a.block := by unfold Addr.add; split <;> rfl
theorem add_flat (b o n : Nat) : (Addr.mk b o none).add n = ⟨b, o + n, none⟩ := by
  unfold Addr.add
  by_cases h : n = 0 <;> simp [h]

/-- Slice value '.slice A n _' reads as f 0 .. f (n - 1), in a block below B. -/
def RowF (w : World) (B : Nat) (A : Option Addr) (n : Nat) (f : Nat → Value) : Prop :=
  0 < n → ∃ b o, A = some ⟨b, o, none⟩ ∧ b < B ∧ ∀ j, j < n → w.cell? ⟨b, o + j, none⟩ = some (f j)

section
variable {w w' : World} {B B' n k : Nat} {A : Option Addr} {f g : Nat → Value}
theorem RowF.at_ (h : RowF w B A n f) (hk : k < n) : ∃ b o, A = some ⟨b, o, none⟩ ∧ b < B ∧ w.cell? ⟨b, o + k, none⟩ = some (f k) := by
  obtain ⟨b, o, e, hb, hc⟩ := h (by omega)
  exact ⟨b, o, e, hb, hc k hk⟩
theorem RowF.keep (h : RowF w B A n f) (hk : ∀ p : Addr, p.block < B → w'.cell? p = w.cell? p) : RowF w' B A n f := fun hn => by
  obtain ⟨b, o, e, hb, hc⟩ := h hn
  exact ⟨b, o, e, hb, fun j hj => (hk _ hb).trans (hc j hj)⟩
theorem RowF.more (h : RowF w B A n f) (hB : B ≤ B') : RowF w B' A n f := fun hn => by
  obtain ⟨b, o, e, hb, hc⟩ := h hn
  exact ⟨b, o, e, by omega, hc⟩
theorem RowF.below (h : RowF w B A n f) (hb : Below B w w') : RowF w' B A n f := h.keep fun _ hp => hb.cell hp
theorem RowF.drew (h : RowF w B A n f) : RowF w.drew B A n f := h
theorem RowF.drewN (h : RowF w B A n f) (m : Nat) : RowF (w.drewN m) B A n f := h
theorem RowF.congr (h : RowF w B A n f) (e : ∀ i, i < n → f i = g i) : RowF w B A n g := fun hn => by
  obtain ⟨b, o, ea, hb, hc⟩ := h hn
  exact ⟨b, o, ea, hb, fun j hj => by rw [hc j hj, e j hj]⟩
theorem RowF.of_rowIs {b t m : Nat} (h : w.rowIs b t m f) (hn : n ≤ m) (hB : b < B) : RowF w B (some ⟨b, 0, none⟩) n f := fun _ =>
  ⟨b, 0, rfl, hB, fun j hj => by rw [Nat.zero_add]; exact h.cell (by omega)⟩
theorem RowF.of_add {ad : Addr} (hB : w.heap.size ≤ B) (hc : ∀ j, j < n → w.cell? (ad.add j) = some (f j)) : RowF w B (some ad) n f := fun hn => by
  obtain ⟨b, o, spot⟩ := ad
  have hs : spot = none := by simpa [Addr.add] using World.cell?_spot (hc 0 hn)
  subst hs
  refine ⟨b, o, rfl, ?_, fun j hj => by rw [← add_flat]; exact hc j hj⟩
  have := block_lt_of_cell (hc 0 hn)
  rw [add_block] at this
  exact Nat.lt_of_lt_of_le this hB
end

/-- Only one block, and what is new, has turned. -/
theorem only_alloc {a w : World} {row : Option Nat} (h : a.grownBy w row) (o : Obj) : a.grownBy (w.alloc o) row :=
  ⟨h.os, h.tape, h.output, Nat.le_trans h.size (by simp), fun i hi hne => (Below.heap_alloc w o i (Nat.lt_of_lt_of_le hi h.size)).trans (h.block i hi hne)⟩
theorem only_setCell {a w : World} {g : Nat} (h : a.grownBy w (some g)) {p : Addr} (hp : p.block = g ∨ a.heap.size ≤ p.block) (u : Value) : a.grownBy (w.setCell p u) (some g) :=
  ⟨h.os, h.tape, h.output, by simpa [World.setCell] using h.size, fun i hi hne => (Below.heap_setCell w p u i (by
    rintro rfl
    rcases hp with hp | hp
    · exact hne (by rw [hp])
    · omega)).trans (h.block i hi hne)⟩
theorem only_drewN {a w : World} {row : Option Nat} (h : a.grownBy w row) (n : Nat) : a.grownBy (w.drewN n) row := ⟨h.os, h.tape, h.output, h.size, h.block⟩
theorem only_drew {a w : World} {row : Option Nat} (h : a.grownBy w row) : a.grownBy w.drew row := ⟨h.os, h.tape, h.output, h.size, h.block⟩
theorem only_of_drew {w w' : World} {row : Option Nat} (h : w.drew.grownBy w' row) : w.grownBy w' row := ⟨h.os, h.tape, h.output, h.size, h.block⟩
theorem only_of_drewN {w w' : World} {row : Option Nat} {n : Nat} (h : (w.drewN n).grownBy w' row) : w.grownBy w' row := ⟨h.os, h.tape, h.output, h.size, h.block⟩
theorem only_of_below {a w : World} (h : Below a.heap.size a w) (row : Option Nat) : a.grownBy w row := ⟨h.os, h.tape, h.output, h.size, fun i hi _ => h.block i hi⟩
theorem below_of_only {a w : World} {B g : Nat} (h : a.grownBy w (some g)) (hB : B ≤ a.heap.size) (hg : B ≤ g) : Below B a w := ⟨h.os, h.tape, h.output, h.size, fun k hk => h.block k (by omega) (fun e => by injection e with e; omega)⟩
theorem cell_grown {w w' : World} {g : Nat} (h : w.grownBy w' (some g)) {p : Addr} (hp : p.block < w.heap.size) (hne : p.block ≠ g) : w'.cell? p = w.cell? p :=
  World.cell?_of_block (h.block p.block hp (fun e => hne (by injection e)))
theorem row_grown {w w' : World} {g b t q : Nat} {F : Nat → Value} (h : w.rowIs b t q F) (hg : w.grownBy w' (some g)) (hne : b ≠ g) : w'.rowIs b t q F := h.of_block (hg.block b h.lt (fun e => hne (by injection e)))
theorem RowF.grown {w w' : World} {B n g : Nat} {A : Option Addr} {f : Nat → Value} (h : RowF w B A n f) (hg : w.grownBy w' (some g)) (hB : B ≤ w.heap.size) (hne : B ≤ g) : RowF w' B A n f :=
  h.keep fun p hp => cell_grown hg (by omega) (by omega)
theorem below_drewN' {B : Nat} {a w : World} (h : Below B a w) (n : Nat) : Below B a (w.drewN n) := ⟨h.os, h.tape, h.output, h.size, h.block⟩
theorem below_of_drewN {B : Nat} {a w : World} {n : Nat} (h : Below B (a.drewN n) w) : Below B a w := ⟨h.os, h.tape, h.output, h.size, h.block⟩
theorem below_of_drew {B : Nat} {a w : World} (h : Below B a.drew w) : Below B a w := ⟨h.os, h.tape, h.output, h.size, h.block⟩

/-- 'string(b)' of a slice of bytes that reads so. -/
theorem conv_row {P : Program} {w : World} {B n c : Nat} {A : Option Addr} {f : Nat → Int} (h : RowF w B A n (fun i => .int .u8 (f i))) (src e dst : TypeId)
    (hs : P.underlying src = some (.slice e)) (he : P.underlying e = some (.int .u8)) (hd : P.underlying dst = some .string) :
    (convert src dst (.slice A n c)).run P w = .ok (.string (strOfNums ((List.range n).map f))) w := by
  rcases Nat.eq_zero_or_pos n with hn | hn
  · subst hn
    rw [run_convert_bytes_string w src dst e _ 0 c hs he hd]
    cases A <;> simp [Conv.bytesToString, loadCells]
    all_goals rfl
  · obtain ⟨b, o, rfl, _, hc⟩ := h hn
    exact run_convert_bytes_arg (P := P) w src e hs he b o n c _ (by simp) (fun i hi => by rw [hc i hi]; simp [List.getD_eq_getElem?_getD, hi]) dst hd

/-- 'make([]T, n)' at a size that the walk spells as an integer. -/
theorem run_make_at {P : Program} (t e : TypeId) (z : Value) (bytes : Nat) (ht : P.underlying t = some (.slice e)) (hinfo : (P.info? e).map (fun i => (i.zero, i.size, i.bytes)) = some (some z, 1, bytes)) (hz1 : z.cells = #[z])
    (kl kc : IntKind) (n : Nat) (x : Int) (hx : x = (n : Int)) (hb : bytes * n ≤ 281474976710656) (h63 : n ≤ 9223372036854775807) (w : World) :
    (Instr.makeSlice t (.int kl x) (.int kc x)).run P w = .ok (.slice (some ⟨w.heap.size, 0, none⟩) n n) (w.alloc (.cells (madeCells #[z] n) e)) := by
  subst hx
  exact run_make_row' t e z bytes ht hinfo hz1 kl kc n hb h63 w

/-- The lengths of the first k strings, summed. -/
def tot (f : Nat → ByteArray) : Nat → Nat
  | 0 => 0
  | k + 1 => tot f k + (f k).size
theorem tot_mono (f : Nat → ByteArray) {k n : Nat} (h : k ≤ n) : tot f k ≤ tot f n := by
  induction n with
  | zero => obtain rfl : k = 0 := by omega
            exact Nat.le_refl _
  | succ n ih =>
    by_cases e : k = n + 1
    · subst e; exact Nat.le_refl _
    · have := ih (by omega); simp only [tot]; omega
theorem tot_at (f : Nat → ByteArray) {k n : Nat} (h : k < n) : tot f k + (f k).size ≤ tot f n := tot_mono f (show k + 1 ≤ n from h)
theorem ret_boolv {a b : Bool} (h : b = a) : Ending.returned (.bool a) = .returned (.bool b) := by rw [h]

/-- What a copy of a slice of one-cell elements gives. -/
def Cloned (F : Nat → Value) (n : Nat) (w : World) (e : Ending) (w' : World) : Prop :=
  ∃ A c, e = .returned (.slice A n c) ∧ n ≤ c ∧ RowF w' w'.heap.size A n F ∧ Below w.heap.size w w'

/-- Arguments: what a walk is told of a slice of integers, of strings, of bools. -/
structure InInts (k : IntKind) (w : World) (A : Option Addr) (n c : Nat) (f : Nat → Int) : Prop where
  row : RowF w w.heap.size A n (fun i => .int k (f i))
  wf : ∀ i, (Lit.int k (f i)).wf = true
  le : n ≤ c
  max : c ≤ maxLen
structure InStrs (w : World) (A : Option Addr) (n c : Nat) (f : Nat → ByteArray) : Prop where
  row : RowF w w.heap.size A n (fun i => .string (f i))
  wf : ∀ i, (f i).size ≤ maxLen
  le : n ≤ c
  max : c ≤ maxLen
structure InBools (w : World) (A : Option Addr) (n c : Nat) (f : Nat → Bool) : Prop where
  row : RowF w w.heap.size A n (fun i => .bool (f i))
  le : n ≤ c
  max : c ≤ maxLen

section
variable {H : Type} {enc : TypeId × Value → H} {P : Program} {w : World}
theorem getD_mem_or {α : Type} (l : List α) (i : Nat) (d : α) : l.getD i d ∈ l ∨ l.getD i d = d := by
  by_cases h : i < l.length
  · left; rw [List.getD_eq_getElem?_getD, List.getElem?_eq_getElem h]; exact List.getElem_mem h
  · right; rw [List.getD_eq_getElem?_getD, List.getElem?_eq_none (by omega)]; rfl
theorem wf_zero (k : IntKind) : (Lit.int k 0).wf = true := by cases k <;> rfl
theorem in_ints {t e : TypeId} {k : IntKind} {A : Option Addr} {n c : Nat} {d : DataW H} {p : List MemPlace} (ht : P.underlying t = some (.slice e)) (he : P.underlying e = some (.int k)) (hc : P.cellsOf e = 1)
    (h : DataW.Trod enc P w 0 (fun _ => true) true t (.slice A n c) d p) : ∃ f, InInts k w A n c f := by
  obtain ⟨fuel, hf⟩ := h
  rcases open_ints ht he hc hf with ⟨hcs, _⟩ | ⟨x, l, c', zs, hcs, _, hl, hm, hz, _, hcell, hwz⟩
  · simp [Value.cells] at hcs
    obtain ⟨rfl, rfl, rfl⟩ := hcs
    exact ⟨fun _ => 0, fun h => absurd h (by omega), fun _ => wf_zero k, Nat.le_refl _, Nat.zero_le _⟩
  · simp [Value.cells] at hcs
    obtain ⟨rfl, rfl, rfl⟩ := hcs
    have hz' : zs.length = c := by simpa using hz
    refine ⟨fun i => zs.getD i 0, RowF.of_add (Nat.le_refl _) (fun j hj => hcell j (by omega)), fun i => ?_, hl, hm⟩
    · rcases getD_mem_or zs i 0 with h | h
      · exact hwz _ h
      · rw [h]; exact wf_zero k
theorem in_strs {t e : TypeId} {A : Option Addr} {n c : Nat} {d : DataW H} {p : List MemPlace} (ht : P.underlying t = some (.slice e)) (he : P.underlying e = some .string) (hc : P.cellsOf e = 1)
    (h : DataW.Trod enc P w 0 (fun _ => true) true t (.slice A n c) d p) : ∃ f, InStrs w A n c f := by
  obtain ⟨fuel, hf⟩ := h
  rcases open_strings ht he hc hf with ⟨hcs, _⟩ | ⟨x, l, c', zs, hcs, _, hl, hm, hz, _, hcell, hwz⟩
  · simp [Value.cells] at hcs
    obtain ⟨rfl, rfl, rfl⟩ := hcs
    exact ⟨fun _ => ByteArray.empty, fun h => absurd h (by omega), fun _ => Nat.zero_le _, Nat.le_refl _, Nat.zero_le _⟩
  · simp [Value.cells] at hcs
    obtain ⟨rfl, rfl, rfl⟩ := hcs
    have hz' : zs.length = c := by simpa using hz
    refine ⟨fun i => zs.getD i ByteArray.empty, RowF.of_add (Nat.le_refl _) (fun j hj => hcell j (by omega)), fun i => ?_, hl, hm⟩
    · rcases getD_mem_or zs i ByteArray.empty with h | h
      · exact hwz _ h
      · rw [h]; exact Nat.zero_le _
theorem in_bools {t e : TypeId} {A : Option Addr} {n c : Nat} {d : DataW H} {p : List MemPlace} (ht : P.underlying t = some (.slice e)) (he : P.underlying e = some .bool) (hc : P.cellsOf e = 1)
    (h : DataW.Trod enc P w 0 (fun _ => true) true t (.slice A n c) d p) : ∃ f, InBools w A n c f := by
  obtain ⟨fuel, hf⟩ := h
  rcases open_slice1 ht hc hf with ⟨hcs, _⟩ | ⟨x, l, c', m, q, V, D, Pl, hcs, _, hl, hm, hmm, _, hx⟩
  · simp [Value.cells] at hcs
    obtain ⟨rfl, rfl, rfl⟩ := hcs
    exact ⟨fun _ => false, fun h => absurd h (by omega), Nat.le_refl _, Nat.zero_le _⟩
  · simp [Value.cells] at hcs
    obtain ⟨rfl, rfl, rfl⟩ := hcs
    have hm' : m = c := by simpa using hmm
    subst hm'
    have hb : ∀ i, i < m → ∃ b : Bool, V i = .bool b := fun i hi => by
      obtain ⟨b, e, _⟩ := DataW.trod_bool he (hx i hi).2
      exact ⟨b, by simpa using e⟩
    refine ⟨fun i => match V i with | .bool b => b | _ => false, RowF.of_add (Nat.le_refl _) (fun j hj => ?_), hl, hm⟩
    · obtain ⟨b, e⟩ := hb j (by omega)
      rw [(hx j (by omega)).1, e]
end
end Go.Proofs.Ytippmlajjkdblaa
