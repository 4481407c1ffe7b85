/- Words for the law's walk: rows are kept; counts. -/
import Derived.Test.YtippmlajjkdblaaQj
import Derived.Test.YtippmlajjkdblaaQc
import Derived.Test.YtippmlajjkdblaaQf
import Derived.Test.YtippmlajjkdblaaQh
namespace Go.Proofs.Ytippmlajjkdblaa
open Go.RowKit
set_option linter.unusedVariables false
set_option linter.unusedSimpArgs false
theorem Row.kt {L g n : Nat} {w w' : World} {P : PQ} (h : Row w g n P) (hg : g < L) (hk : Kt L w w') : Row w' g n P :=
  ⟨h.row.keep (hk.low g hg), fun i hi => (h.is i hi).kt hk⟩
theorem Row.below {g n : Nat} {w w' : World} {P : PQ} (h : Row w g n P) (hb : Below w.heap.size w w') : Row w' g n P := h.kt h.row.lt (Kt.of_below hb (Nat.le_refl _))
theorem cnt_le {α : Type} (p : α → Bool) (Q : Nat → α) : ∀ n, cnt p Q n ≤ n
  | 0 => Nat.le_refl _
  | n + 1 => by
    have := cnt_le p Q n
    rw [cnt]
    unfold ind
    split <;> omega
theorem cnt_snd (f : MsgR → Bool) {Q Q' : PQ} : ∀ {n : Nat}, (∀ i, i < n → (Q i).2 = (Q' i).2) → cnt (fun x => f x.2) Q n = cnt (fun x => f x.2) Q' n
  | 0, _ => rfl
  | n + 1, h => by
    rw [cnt, cnt, cnt_snd f (fun i hi => h i (by omega)), h n (by omega)]
theorem RR_of {M M' : Nat → MsgP} {n m : Nat} {P Q : PQ} (h0 : ∀ i, i < n → (P (0 + i)).2 = toR 0 (M i)) (ha : ∀ i, i < n → Q i = P i) (hb : ∀ i, i < m → (Q (n + i)).2 = toR 1 (M' i)) : ∀ i, i < n + m → (Q i).2 = RR M M' n i := fun i hi => by
  unfold RR
  by_cases hin : i < n
  · rw [if_pos hin, ha i hin]
    have := h0 i hin
    rwa [Nat.zero_add] at this
  · rw [if_neg hin]
    have := hb (i - n) (by omega)
    rwa [show n + (i - n) = i by omega] at this
theorem Kt.lowBelow {L B : Nat} {w w' : World} (h : Kt L w w') (hB : B ≤ L) : Below B w w' := h.below.mono hB
/-- A row's cells, written out. -/
theorem row_cells {w : World} {g n : Nat} {P : PQ} (h : Row w g n P) {i : Nat} (hi : i < n) :
    w.cell? ⟨g, i * 8, none⟩ = some (.slice (P i).1.A (P i).1.n (P i).1.c) ∧ w.cell? ⟨g, i * 8 + 1, none⟩ = some (.string (P i).1.p) ∧ w.cell? ⟨g, i * 8 + 2, none⟩ = some .nilIface ∧ w.cell? ⟨g, i * 8 + 3, none⟩ = some (locv (P i).1.l) ∧
    w.cell? ⟨g, i * 8 + 4, none⟩ = some (.string (P i).1.t) ∧ w.cell? ⟨g, i * 8 + 5, none⟩ = some (.bool false) ∧ w.cell? ⟨g, i * 8 + 6, none⟩ = some (.int .u8 (P i).1.kind) ∧ w.cell? ⟨g, i * 8 + 7, none⟩ = some (.int .u8 (P i).1.id) :=
  ⟨h.row.cell hi (j := 0) (by decide), h.row.cell hi (j := 1) (by decide), h.row.cell hi (j := 2) (by decide), h.row.cell hi (j := 3) (by decide), h.row.cell hi (j := 4) (by decide), h.row.cell hi (j := 5) (by decide), h.row.cell hi (j := 6) (by decide), h.row.cell hi (j := 7) (by decide)⟩
end Go.Proofs.Ytippmlajjkdblaa
