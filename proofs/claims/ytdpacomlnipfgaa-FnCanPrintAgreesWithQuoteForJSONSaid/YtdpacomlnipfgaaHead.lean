/- A drawn region whose first n operations yield in whatever world, and whose other operations then come up one by one. -/
import Derived.StillTail
import Derived.StillTailTactics
namespace Go.Proofs.Ytdpacomlnipfgaa
open Go

section
variable {P : Program} {ops : Array Oper} {md : Region.Mode}
def wpHead (P : Program) (ops : Array Oper) (L : Act → Prop) : List Oper → Act → Prop
  | [], a => L a
  | o :: rest, a => ∃ v, Yields P ops o v a ∧ wpHead P ops L rest (a.put o.dst v)
theorem wpHead_nil {L : Act → Prop} {a : Act} (h : L a) : wpHead P ops L [] a := h
theorem wpHead_step {L : Act → Prop} {a : Act} {o : Oper} {rest : List Oper} {v : Value} (hw : Region.wanted o (yielded ops a.tmps) = true) (hy : ∀ w, (execOp a.eval o).run P w = .ok (.value v) w)
    (h : wpHead P ops L rest (a.put o.dst v)) : wpHead P ops L (o :: rest) a := ⟨v, .inl ⟨hw, hy⟩, h⟩
theorem wpAny_of_wpHead {n g : Nat} {L : Act → Prop} {Q : Exit → Act → World → Prop} {w : World} (hsel : Region.noSelect ops = true) (hQ : ∀ c d v a w, Q (.panic c) (a.put d v) w → Q (.panic c) a w)
    (hL : ∀ listed a, Region.seqB md ops g n listed = true → L a → wpAny P md ops Q g listed a w) :
    ∀ (l : List Oper) (k : Nat) (listed : Array Bool) (a : Act), (∀ j, j < l.length → l[j]? = ops[k + j]?) → k + l.length = n → Region.lexHead md ops g l.length k listed = true → wpHead P ops L l a →
    wpAny P md ops Q (l.length + g) listed a w
  | [], k, listed, a, _, hk, hB, h => by
    have : k = n := by simpa using hk
    subst this
    rw [List.length_nil, Nat.zero_add]
    exact hL listed a (by simpa [Region.lexHead] using hB) h
  | o :: l, k, listed, a, hl, hk, hB, h => by
    have h0 : ops[k]? = some o := by simpa using (hl 0 (by simp)).symm
    simp only [List.length_cons, Region.lexHead, Bool.and_eq_true] at hB
    obtain ⟨⟨hr, hf⟩, hB'⟩ := hB
    obtain ⟨v, hy, hK⟩ := h
    rw [List.length_cons, show l.length + 1 + g = (l.length + g) + 1 by omega]
    exact wpAny_take h0 hsel hf hr (fun c a w => hQ c o.dst v a w) hy
      (wpAny_of_wpHead hsel hQ hL l (k + 1) _ _ (fun j hj => by have := hl (j + 1) (by simp; omega); simpa [Nat.add_assoc, Nat.add_comm 1 j] using this) (by simp only [List.length_cons] at hk; omega) hB' hK)
theorem wp_region_head {id : Nat} {Q : Exit → Act → World → Prop} {a : Act} {w : World} {l : List Oper} (n : Nat) (hm : P.follows .mixedOrders = true)
    (hB : (Region.noSelect l.toArray && decide (n < l.toArray.size) && Region.lexHead .any l.toArray (l.toArray.size - n) n 0 (Array.replicate l.toArray.size false)) = true)
    (hQ : ∀ c d v a w, Q (.panic c) (a.put d v) w → Q (.panic c) a w)
    (h : wpHead P l.toArray (fun a' => wpList P l.toArray Q (l.drop n) a' { w with drawn := w.drawn + 1 }) (l.take n) a) : (Code.region id l.toArray true).wp P Q a w := by
  simp only [Bool.and_eq_true, decide_eq_true_eq] at hB
  obtain ⟨⟨hsel, hn⟩, hlex⟩ := hB
  have hn' : n < l.length := by simpa using hn
  have htl : (l.take n).length = n := by simp; omega
  have hdl : (l.drop n).length = l.toArray.size - n := by simp
  refine wp_region_any hm ?_
  have := wpAny_of_wpHead (md := .any) (n := n) (g := l.toArray.size - n) (w := { w with drawn := w.drawn + 1 }) hsel hQ (fun listed a' hs hL => by
    have := wpAny_of_seq (md := .any) (Q' := Q) (l.drop n) n listed a' { w with drawn := w.drawn + 1 } (fun j => by simp [List.getElem?_drop]) (by rw [hdl]; exact hs) hL
    rwa [hdl] at this) (l.take n) 0 (Array.replicate l.toArray.size false) a (fun j hj => by
      have hj' : j < n := by rw [htl] at hj; exact hj
      simp [hj']) (by simpa using htl) (by rw [htl]; exact hlex) h
  rw [htl, show n + (l.toArray.size - n) = l.toArray.size by omega] at this
  exact this
end
end Go.Proofs.Ytdpacomlnipfgaa
