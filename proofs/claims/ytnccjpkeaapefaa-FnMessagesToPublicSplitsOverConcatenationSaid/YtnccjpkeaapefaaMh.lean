/- Raw messages and rows of messages. -/
import Derived.Test.YtnccjpkeaapefaaMe
import Derived.Test.YtnccjpkeaapefaaMg
namespace Go.Proofs.Ytnccjpkeaapefaa
open Go.RowKit
set_option linter.unusedVariables false
set_option linter.unusedSimpArgs false
/-- A raw message. -/
structure MsgR where
  plugin : ByteArray
  text : ByteArray
  loc : Option LocA
  n : Nat
  T : Nat → ByteArray
  O : Nat → Option LocA
  kind : Int
  id : Int
def toP (x : Int) (m : MsgR) : MsgP := ⟨idText m.id, m.plugin, m.text, m.loc.map (pubOf x), m.n, m.T, fun j => (m.O j).map (pubOf x)⟩
def IsRawNotes (w : World) (Z : Nat → Prop) (v : Value) (n : Nat) (T : Nat → ByteArray) (O : Nat → Option LocA) : Prop :=
  (n = 0 ∧ v = .slice none 0 0) ∨ (0 < n ∧ ∃ g c, v = .slice (some ⟨g, 0, none⟩) n c ∧ Z g ∧ g < w.heap.size ∧ ∀ j, j < n → w.cell? ⟨g, j * 4, none⟩ = some .nilIface ∧ w.cell? ⟨g, j * 4 + 2, none⟩ = some (.string (T j)) ∧ w.cell? ⟨g, j * 4 + 3, none⟩ = some (.bool false) ∧ ∃ vl, w.cell? ⟨g, j * 4 + 1, none⟩ = some vl ∧ IsRaw w Z vl (O j))
/-- The eight cells at ⟨b, o⟩ are a raw message. -/
def IsRawMsg (w : World) (Z : Nat → Prop) (b o : Nat) (m : MsgR) : Prop :=
  w.cell? ⟨b, o + 1, none⟩ = some (.string m.plugin) ∧ w.cell? ⟨b, o + 2, none⟩ = some .nilIface ∧ w.cell? ⟨b, o + 4, none⟩ = some (.string m.text) ∧ w.cell? ⟨b, o + 5, none⟩ = some (.bool false) ∧
  w.cell? ⟨b, o + 6, none⟩ = some (.int .u8 m.kind) ∧ w.cell? ⟨b, o + 7, none⟩ = some (.int .u8 m.id) ∧ 0 ≤ m.id ∧ m.n ≤ 1048576 ∧
  ∃ vn vl, w.cell? ⟨b, o, none⟩ = some vn ∧ w.cell? ⟨b, o + 3, none⟩ = some vl ∧ IsRawNotes w Z vn m.n m.T m.O ∧ IsRaw w Z vl m.loc
/-- Slice A of n raw messages. -/
def RawRow (w : World) (Z : Nat → Prop) (A : Option Addr) (n : Nat) (M : Nat → MsgR) : Prop :=
  0 < n → ∃ b o, A = some ⟨b, o, none⟩ ∧ Z b ∧ b < w.heap.size ∧ ∀ i, i < n → IsRawMsg w Z b (o + i * 8) (M i)
theorem IsRawNotes.keep {w w' : World} {Z Z' : Nat → Prop} {v : Value} {n : Nat} {T : Nat → ByteArray} {O : Nat → Option LocA} (h : IsRawNotes w Z v n T O) (hz : ∀ g, Z g → Z' g) (hk : ∀ g, Z g → g < w.heap.size → w'.heap[g]? = w.heap[g]?) (hs : w.heap.size ≤ w'.heap.size) : IsRawNotes w' Z' v n T O := by
  rcases h with h | ⟨hn, g, c, rfl, hg, hlt, hc⟩
  · exact Or.inl h
  · have e : ∀ i, w'.cell? ⟨g, i, none⟩ = w.cell? ⟨g, i, none⟩ := fun i => by simp only [World.cell?, hk g hg hlt]
    refine Or.inr ⟨hn, g, c, rfl, hz g hg, Nat.lt_of_lt_of_le hlt hs, fun j hj => ?_⟩
    obtain ⟨h0, h2, h3, vl, h1, hl⟩ := hc j hj
    exact ⟨(e _).trans h0, (e _).trans h2, (e _).trans h3, vl, (e _).trans h1, hl.keep hz hk hs⟩
theorem IsRawMsg.keep {w w' : World} {Z Z' : Nat → Prop} {b o : Nat} {m : MsgR} (h : IsRawMsg w Z b o m) (hb : Z b) (hlt : b < w.heap.size) (hz : ∀ g, Z g → Z' g) (hk : ∀ g, Z g → g < w.heap.size → w'.heap[g]? = w.heap[g]?) (hs : w.heap.size ≤ w'.heap.size) : IsRawMsg w' Z' b o m := by
  have e : ∀ i, w'.cell? ⟨b, i, none⟩ = w.cell? ⟨b, i, none⟩ := fun i => by simp only [World.cell?, hk b hb hlt]
  obtain ⟨h1, h2, h4, h5, h6, h7, hid, hn, vn, vl, h0, h3, hno, hl⟩ := h
  exact ⟨(e _).trans h1, (e _).trans h2, (e _).trans h4, (e _).trans h5, (e _).trans h6, (e _).trans h7, hid, hn, vn, vl, (e _).trans h0, (e _).trans h3, hno.keep hz hk hs, hl.keep hz hk hs⟩
theorem RawRow.keep {w w' : World} {Z Z' : Nat → Prop} {A : Option Addr} {n : Nat} {M : Nat → MsgR} (h : RawRow w Z A n M) (hz : ∀ g, Z g → Z' g) (hk : ∀ g, Z g → g < w.heap.size → w'.heap[g]? = w.heap[g]?) (hs : w.heap.size ≤ w'.heap.size) : RawRow w' Z' A n M := fun hn => by
  obtain ⟨b, o, e, hb, hlt, hm⟩ := h hn
  exact ⟨b, o, e, hz b hb, Nat.lt_of_lt_of_le hlt hs, fun i hi => (hm i hi).keep hb hlt hz hk hs⟩
theorem RawRow.below {w w' : World} {Z : Nat → Prop} {A : Option Addr} {n : Nat} {M : Nat → MsgR} (h : RawRow w Z A n M) (hb : Below w.heap.size w w') : RawRow w' Z A n M := h.keep (fun _ h => h) (fun g _ hg => hb.block g hg) hb.size
/-- The first k of them. -/
theorem RawRow.take {w : World} {Z : Nat → Prop} {A : Option Addr} {n k : Nat} {M : Nat → MsgR} (h : RawRow w Z A n M) (hk : k ≤ n) : RawRow w Z A k M := fun h0 => by
  obtain ⟨b, o, e, hb, hlt, hm⟩ := h (by omega)
  exact ⟨b, o, e, hb, hlt, fun i hi => hm i (by omega)⟩
/-- What lies behind the first k. -/
theorem RawRow.drop {w : World} {Z : Nat → Prop} {b o n k : Nat} {M : Nat → MsgR} (h : RawRow w Z (some ⟨b, o, none⟩) n M) (hk : k ≤ n) : RawRow w Z (some ⟨b, o + k * 8, none⟩) (n - k) (fun i => M (k + i)) := fun h0 => by
  obtain ⟨b', o', e, hb, hlt, hm⟩ := h (by omega)
  injection e with e
  injection e with e1 e2
  subst e1 e2
  refine ⟨b, o + k * 8, rfl, hb, hlt, fun i hi => ?_⟩
  have := hm (k + i) (by omega)
  rw [show o + k * 8 + i * 8 = o + (k + i) * 8 by omega]
  exact this
/-- The abstract conversion: those of the wanted kind, in order. -/
def conv (want x : Int) (M : Nat → MsgR) : Nat → List MsgP
  | 0 => []
  | n + 1 => conv want x M n ++ (if (M n).kind = want then [toP x (M n)] else [])
theorem conv_add (want x : Int) (M : Nat → MsgR) (k : Nat) : ∀ j, conv want x M (k + j) = conv want x M k ++ conv want x (fun i => M (k + i)) j
  | 0 => by simp [conv]
  | j + 1 => by
    show conv want x M (k + j) ++ _ = _
    rw [conv_add want x M k j]
    simp [conv]
/-- A row of public messages that reads as a list. -/
def PubRow (w : World) (Z : Nat → Prop) (A : Option Addr) (l : List MsgP) : Prop :=
  (l = [] ∧ A = none) ∨ (l ≠ [] ∧ ∃ g, A = some ⟨g, 0, none⟩ ∧ Z g ∧ g < w.heap.size ∧ ∀ i m, l[i]? = some m → m.n ≤ 1048576 ∧ ∃ vl vn, w.cell? ⟨g, i * 6, none⟩ = some (.string m.id) ∧ w.cell? ⟨g, i * 6 + 1, none⟩ = some (.string m.plugin) ∧ w.cell? ⟨g, i * 6 + 2, none⟩ = some (.string m.text) ∧ w.cell? ⟨g, i * 6 + 3, none⟩ = some vl ∧ w.cell? ⟨g, i * 6 + 4, none⟩ = some vn ∧ w.cell? ⟨g, i * 6 + 5, none⟩ = some .nilIface ∧ IsLoc w Z vl m.loc ∧ IsNotes w Z vn m.n m.T m.O)
theorem PubRow.keep {w w' : World} {Z Z' : Nat → Prop} {A : Option Addr} {l : List MsgP} (h : PubRow w Z A l) (hz : ∀ g, Z g → Z' g) (hk : ∀ g, Z g → g < w.heap.size → w'.heap[g]? = w.heap[g]?) (hs : w.heap.size ≤ w'.heap.size) : PubRow w' Z' A l := by
  rcases h with h | ⟨hl, g, rfl, hg, hlt, hc⟩
  · exact Or.inl h
  · have e : ∀ i, w'.cell? ⟨g, i, none⟩ = w.cell? ⟨g, i, none⟩ := fun i => by simp only [World.cell?, hk g hg hlt]
    refine Or.inr ⟨hl, g, rfl, hz g hg, Nat.lt_of_lt_of_le hlt hs, fun i m hi => ?_⟩
    obtain ⟨hn, vl, vn, h0, h1, h2, h3, h4, h5, h6, h7⟩ := hc i m hi
    exact ⟨hn, vl, vn, (e _).trans h0, (e _).trans h1, (e _).trans h2, (e _).trans h3, (e _).trans h4, (e _).trans h5, h6.keep hz hk hs, h7.keep hz hk hs⟩
end Go.Proofs.Ytnccjpkeaapefaa
