/- Lists of cells that read as notes, as messages. -/
import Derived.Test.YtnccjpkeaapefaaMh
import Derived.OwnWalk
namespace Go.Proofs.Ytnccjpkeaapefaa
open Go.RowKit
set_option linter.unusedVariables false
set_option linter.unusedSimpArgs false
def NotesAt (w : World) (Z : Nat → Prop) (xs : List Value) (n : Nat) (T : Nat → ByteArray) (O : Nat → Option PubA) : Prop :=
  xs.length = n * 2 ∧ ∀ j, j < n → xs[j * 2]? = some (.string (T j)) ∧ ∃ vl, xs[j * 2 + 1]? = some vl ∧ IsLoc w Z vl (O j)
theorem NotesAt.nil (w : World) (Z : Nat → Prop) (T : Nat → ByteArray) (O : Nat → Option PubA) : NotesAt w Z [] 0 T O := ⟨rfl, fun j hj => absurd hj (by omega)⟩
theorem NotesAt.snoc {w : World} {Z : Nat → Prop} {xs : List Value} {k : Nat} {T : Nat → ByteArray} {O : Nat → Option PubA} (h : NotesAt w Z xs k T O) {vl : Value} (hl : IsLoc w Z vl (O k)) : NotesAt w Z (xs ++ [.string (T k), vl]) (k + 1) T O := by
  have hlen := h.1
  refine ⟨by simp; omega, fun j hj => ?_⟩
  by_cases hk : j < k
  · obtain ⟨a, v, b, c⟩ := h.2 j hk
    exact ⟨by rw [List.getElem?_append_left (by omega)]; exact a, v, by rw [List.getElem?_append_left (by omega)]; exact b, c⟩
  · obtain rfl : j = k := by omega
    refine ⟨?_, vl, ?_, hl⟩
    · rw [List.getElem?_append_right (by omega), show j * 2 - xs.length = 0 by omega]; rfl
    · rw [List.getElem?_append_right (by omega), show j * 2 + 1 - xs.length = 1 by omega]; rfl
theorem NotesAt.keep {w w' : World} {Z Z' : Nat → Prop} {xs : List Value} {n : Nat} {T : Nat → ByteArray} {O : Nat → Option PubA} (h : NotesAt w Z xs n T O) (hz : ∀ g, Z g → Z' g) (hk : ∀ g, Z g → g < w.heap.size → w'.heap[g]? = w.heap[g]?) (hs : w.heap.size ≤ w'.heap.size) : NotesAt w' Z' xs n T O :=
  ⟨h.1, fun j hj => by obtain ⟨a, v, b, c⟩ := h.2 j hj; exact ⟨a, v, b, c.keep hz hk hs⟩⟩
theorem NotesAt.is {w : World} {Z : Nat → Prop} {xs : List Value} {n t base : Nat} {v : Value} {T : Nat → ByteArray} {O : Nat → Option PubA} (h : NotesAt w Z xs n T O) (ho : w.ownsRow base t 2 v n xs) (hz : ∀ g, base ≤ g → Z g) (h0 : n = 0 → v = .slice none 0 0) : IsNotes w Z v n T O := by
  by_cases hn : n = 0
  · exact Or.inl ⟨hn, h0 hn⟩
  · obtain ⟨_, hv | ⟨g, cap, cur, hv, hb, hg, hr⟩⟩ := ho
    · exact absurd hv.2 hn
    · refine Or.inr ⟨by omega, g, cap, hv, hz g hb, heap_lt hg, fun j hj => ?_⟩
      have hO : w.ownsRow base t 2 (.slice (some ⟨g, 0, none⟩) n cap) n xs := ⟨h.1, Or.inr ⟨g, cap, cur, rfl, hb, hg, hr⟩⟩
      obtain ⟨a, vl, b, c⟩ := h.2 j hj
      exact ⟨(hO.cellAt _ (by omega)).trans a, vl, (hO.cellAt _ (by omega)).trans b, c⟩
def MsgsAt (w : World) (Z : Nat → Prop) (xs : List Value) (l : List MsgP) : Prop :=
  xs.length = l.length * 6 ∧ ∀ i m, l[i]? = some m → m.n ≤ 1048576 ∧ ∃ vl vn, xs[i * 6]? = some (.string m.id) ∧ xs[i * 6 + 1]? = some (.string m.plugin) ∧ xs[i * 6 + 2]? = some (.string m.text) ∧ xs[i * 6 + 3]? = some vl ∧ xs[i * 6 + 4]? = some vn ∧ xs[i * 6 + 5]? = some .nilIface ∧ IsLoc w Z vl m.loc ∧ IsNotes w Z vn m.n m.T m.O
theorem MsgsAt.nil (w : World) (Z : Nat → Prop) : MsgsAt w Z [] [] := ⟨rfl, fun i m h => by simp at h⟩
theorem MsgsAt.keep {w w' : World} {Z Z' : Nat → Prop} {xs : List Value} {l : List MsgP} (h : MsgsAt w Z xs l) (hz : ∀ g, Z g → Z' g) (hk : ∀ g, Z g → g < w.heap.size → w'.heap[g]? = w.heap[g]?) (hs : w.heap.size ≤ w'.heap.size) : MsgsAt w' Z' xs l :=
  ⟨h.1, fun i m hi => by
    obtain ⟨hn, vl, vn, h0, h1, h2, h3, h4, h5, h6, h7⟩ := h.2 i m hi
    exact ⟨hn, vl, vn, h0, h1, h2, h3, h4, h5, h6.keep hz hk hs, h7.keep hz hk hs⟩⟩
theorem MsgsAt.snoc {w : World} {Z : Nat → Prop} {xs : List Value} {l : List MsgP} (h : MsgsAt w Z xs l) {vl vn : Value} {m : MsgP} (hn : m.n ≤ 1048576) (hl : IsLoc w Z vl m.loc) (hno : IsNotes w Z vn m.n m.T m.O) :
    MsgsAt w Z (xs ++ [.string m.id, .string m.plugin, .string m.text, vl, vn, .nilIface]) (l ++ [m]) := by
  have hlen := h.1
  refine ⟨by simp; omega, fun i p hi => ?_⟩
  by_cases hk : i < l.length
  · rw [List.getElem?_append_left hk] at hi
    obtain ⟨hn', vl', vn', h0, h1, h2, h3, h4, h5, h6, h7⟩ := h.2 i p hi
    refine ⟨hn', vl', vn', ?_, ?_, ?_, ?_, ?_, ?_, h6, h7⟩ <;> rw [List.getElem?_append_left (by omega)] <;> assumption
  · have hi' : i = l.length := by
      have := (List.getElem?_eq_some_iff.1 hi).1
      simp at this
      omega
    subst hi'
    simp at hi
    subst hi
    refine ⟨hn, vl, vn, ?_, ?_, ?_, ?_, ?_, ?_, hl, hno⟩ <;> rw [List.getElem?_append_right (by omega), hlen] <;> simp [Nat.add_sub_cancel_left]
theorem MsgsAt.row {w : World} {Z : Nat → Prop} {xs : List Value} {l : List MsgP} {A : Option Addr} {c t base : Nat} (h : MsgsAt w Z xs l) (ho : w.ownsRow base t 6 (.slice A l.length c) l.length xs) (hz : ∀ g, base ≤ g → Z g) (h0 : l = [] → A = none) : PubRow w Z A l := by
  by_cases hn : l = []
  · exact Or.inl ⟨hn, h0 hn⟩
  · obtain ⟨_, hv | ⟨g, cap, cur, hv, hb, hg, hr⟩⟩ := ho
    · exact absurd (List.length_eq_zero_iff.1 hv.2) hn
    · injection hv with hA hl hc
      subst hA hc
      refine Or.inr ⟨hn, g, rfl, hz g hb, heap_lt hg, fun i m hi => ?_⟩
      have hO : w.ownsRow base t 6 (.slice (some ⟨g, 0, none⟩) l.length c) l.length xs := ⟨h.1, Or.inr ⟨g, c, cur, rfl, hb, hg, hr⟩⟩
      have hil : i < l.length := (List.getElem?_eq_some_iff.1 hi).1
      obtain ⟨hn, vl, vn, h0, h1, h2, h3, h4, h5, h6, h7⟩ := h.2 i m hi
      exact ⟨hn, vl, vn, (hO.cellAt _ (by omega)).trans h0, (hO.cellAt _ (by omega)).trans h1, (hO.cellAt _ (by omega)).trans h2, (hO.cellAt _ (by omega)).trans h3, (hO.cellAt _ (by omega)).trans h4, (hO.cellAt _ (by omega)).trans h5, h6, h7⟩
end Go.Proofs.Ytnccjpkeaapefaa
