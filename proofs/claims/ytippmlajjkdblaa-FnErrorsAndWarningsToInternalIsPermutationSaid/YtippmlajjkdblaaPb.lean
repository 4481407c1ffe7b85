/- A message is put into a row; Swap. -/
import Derived.Test.YtippmlajjkdblaaPa
import Derived.Deep.OwnRows
import Derived.Test.YtippmlajjkdblaaMem
namespace Go.Proofs.Ytippmlajjkdblaa
open Go.RowKit
set_option linter.unusedVariables false
set_option linter.unusedSimpArgs false
def updQ (Q : Nat → Grp) (i : Nat) (q : Grp) : Nat → Grp := fun k => if k = i then q else Q k
def swQ (Q : Nat → Grp) (i j : Nat) : Nat → Grp := updQ (updQ Q i (Q j)) j (Q i)
theorem MRow.drew {w : World} {g n : Nat} {Q : Nat → Grp} (h : MRow w g n Q) : MRow w.drew g n Q := h.keep rfl
theorem MRow.frozen {w : World} {g n : Nat} {Q : Nat → Grp} (h : MRow w g n Q) (i : Nat) : w.frozen? ⟨g, i, none⟩ = false := by
  obtain ⟨cur, hg, _⟩ := h
  exact frozen_of_row w g i cur _ hg
def put8 (w : World) (g o : Nat) (q : Grp) : World :=
  (((((((w.setCell ⟨g, o, none⟩ (.slice q.A q.n q.c)).setCell ⟨g, o + 1, none⟩ (.string q.p)).setCell ⟨g, o + 2, none⟩ .nilIface).setCell ⟨g, o + 3, none⟩ (locv q.l)).setCell ⟨g, o + 4, none⟩ (.string q.t)).setCell ⟨g, o + 5, none⟩ (.bool false)).setCell ⟨g, o + 6, none⟩ (.int .u8 q.kind)).setCell ⟨g, o + 7, none⟩ (.int .u8 q.id)
theorem MRow.set1 {w : World} {g : Nat} {t S : Nat} {f : Nat → Value} (h : w.rowIs g t S f) (i : Nat) (v : Value) : (w.setCell ⟨g, i, none⟩ v).rowIs g t S (fun j => if j = i then v else f j) := h.set i v
theorem MRow.put {w : World} {g n : Nat} {Q : Nat → Grp} (h : MRow w g n Q) (i : Nat) (q : Grp) : MRow (put8 w g (i * 8) q) g n (updQ Q i q) := by
  obtain ⟨cur, hg, hs, hc⟩ := h
  have hr : w.rowIs g 38 cur.size (fun k => cur[k]!) := ⟨cur, hg, rfl, fun k hk => by rw [Array.getElem?_eq_getElem hk]; simp [hk]⟩
  obtain ⟨cur', hg', hs', hc'⟩ := ((((((((hr.set (i * 8) (.slice q.A q.n q.c)).set (i * 8 + 1) (.string q.p)).set (i * 8 + 2) .nilIface).set (i * 8 + 3) (locv q.l)).set (i * 8 + 4) (.string q.t)).set (i * 8 + 5) (.bool false)).set (i * 8 + 6) (.int .u8 q.kind)).set (i * 8 + 7) (.int .u8 q.id))
  refine ⟨cur', hg', by omega, fun k hk j hj => ?_⟩
  rw [hc' (k * 8 + j) (by omega)]
  by_cases hki : k = i
  · subst hki
    simp only [updQ, if_true]
    rcases (show j = 0 ∨ j = 1 ∨ j = 2 ∨ j = 3 ∨ j = 4 ∨ j = 5 ∨ j = 6 ∨ j = 7 by omega) with rfl | rfl | rfl | rfl | rfl | rfl | rfl | rfl <;> simp [gcells]
  · have hcj := hc k hk j hj
    simp only [show ¬ k * 8 + j = i * 8 + 7 by omega, show ¬ k * 8 + j = i * 8 + 6 by omega, show ¬ k * 8 + j = i * 8 + 5 by omega, show ¬ k * 8 + j = i * 8 + 4 by omega, show ¬ k * 8 + j = i * 8 + 3 by omega, show ¬ k * 8 + j = i * 8 + 2 by omega, show ¬ k * 8 + j = i * 8 + 1 by omega, show ¬ k * 8 + j = i * 8 by omega, if_false]
    simp only [updQ, if_neg hki]
    rw [← hcj, Array.getElem?_eq_getElem (by omega), getElem!_pos cur (k * 8 + j) (by omega)]
theorem only_put8 {w a : World} {g : Nat} (h : a.grownBy w (some g)) (o : Nat) (q : Grp) : a.grownBy (put8 w g o q) (some g) := by
  have h1 := only_setCell (p := ⟨g, o, none⟩) h (.inl rfl) (.slice q.A q.n q.c)
  have h2 := only_setCell (p := ⟨g, o + 1, none⟩) h1 (.inl rfl) (.string q.p)
  have h3 := only_setCell (p := ⟨g, o + 2, none⟩) h2 (.inl rfl) .nilIface
  have h4 := only_setCell (p := ⟨g, o + 3, none⟩) h3 (.inl rfl) (locv q.l)
  have h5 := only_setCell (p := ⟨g, o + 4, none⟩) h4 (.inl rfl) (.string q.t)
  have h6 := only_setCell (p := ⟨g, o + 5, none⟩) h5 (.inl rfl) (.bool false)
  have h7 := only_setCell (p := ⟨g, o + 6, none⟩) h6 (.inl rfl) (.int .u8 q.kind)
  exact only_setCell (p := ⟨g, o + 7, none⟩) h7 (.inl rfl) (.int .u8 q.id)
end Go.Proofs.Ytippmlajjkdblaa
