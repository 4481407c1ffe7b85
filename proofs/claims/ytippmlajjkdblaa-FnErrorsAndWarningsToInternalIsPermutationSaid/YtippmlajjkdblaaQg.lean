/- Words for buildMsgs: public messages made of the law's. -/
import Derived.Test.YtippmlajjkdblaaQe
namespace Go.Proofs.Ytippmlajjkdblaa
open Go.RowKit
set_option linter.unusedVariables false
set_option linter.unusedSimpArgs false
theorem infoPM : (Try.prog.info? 53).map (fun i => (i.zero, i.size, i.bytes)) = some (some (.agg #[.string ⟨#[]⟩, .string ⟨#[]⟩, .string ⟨#[]⟩, .pointer none, .slice none 0 0, .nilIface]), 6, 96) := by kernel_rfl
theorem infoPN : (Try.prog.info? 51).map (fun i => (i.zero, i.size, i.bytes)) = some (some (.agg #[.string ⟨#[]⟩, .pointer none]), 2, 24) := by kernel_rfl
def toP (m : ZM) : MsgP := ⟨m.I, m.G, m.X, ofZ m.L, m.n, m.T, fun j => ofZ (m.O j)⟩
abbrev pcl (m : ZM) (p : Option Addr) (A : Option Addr) (c : Nat) : List Value := [.string m.I, .string m.G, .string m.X, .pointer p, .slice A m.n c, .nilIface]
theorem row_type {w : World} {b g t t' S : Nat} {f : Nat → Value} {cur : Array Value} (hr : w.rowIs g t S f) (h : w.heap[b]? = some (.cells cur t' (0, 0))) (ht : t' ≠ t) : b ≠ g := fun e => by
  obtain ⟨c, hg, _⟩ := hr
  rw [e, hg] at h
  injection h with h
  injection h with _ h
  exact ht h.symm
/-- The public notes of a message. -/
def BN (w : World) (A : Option Addr) (m : ZM) : Prop := 0 < m.n → ∃ g, A = some ⟨g, 0, none⟩ ∧ (∃ cur, w.heap[g]? = some (.cells cur 51 (0, 0))) ∧ ∀ j, j < m.n → w.cell? ⟨g, j * 2, none⟩ = some (.string (m.T j)) ∧ ∃ p, w.cell? ⟨g, j * 2 + 1, none⟩ = some (.pointer p) ∧ NewLoc w p (ofZ (m.O j))
theorem BN.keep {w w' : World} {A : Option Addr} {m : ZM} (h : BN w A m) (hk : ∀ (b : Nat) (cur : Array Value) (t : TypeId), w.heap[b]? = some (Obj.cells cur t (0, 0)) → t ≠ 53 → w'.heap[b]? = w.heap[b]?) (hs : w.heap.size ≤ w'.heap.size) : BN w' A m := fun hn => by
  obtain ⟨g, e, ⟨cur, hg⟩, hc⟩ := h hn
  have hkg := hk g cur _ hg (by decide)
  have ec : ∀ i, w'.cell? ⟨g, i, none⟩ = w.cell? ⟨g, i, none⟩ := fun i => by simp only [World.cell?, hkg]
  refine ⟨g, e, ⟨cur, hkg.trans hg⟩, fun j hj => ?_⟩
  obtain ⟨h0, p, h1, hl⟩ := hc j hj
  exact ⟨(ec _).trans h0, p, (ec _).trans h1, hl.keep (fun b ⟨c, hb⟩ => hk b c _ hb (by decide)) hs⟩
/-- What has been built so far. -/
def Bld (w : World) (g0 n k : Nat) (M : Nat → ZM) : Prop :=
  ∃ (f : Nat → Value) (P A : Nat → Option Addr) (c : Nat → Nat), w.rowIs g0 53 (n * 6) f ∧ Reads f 6 k (fun i => pcl (M i) (P i) (A i) (c i)) ∧ ∀ i, i < k → NewLoc w (P i) (ofZ (M i).L) ∧ BN w (A i) (M i)
theorem Bld.keep {w w' : World} {g0 n k : Nat} {M : Nat → ZM} (h : Bld w g0 n k M) (hb : Below w.heap.size w w') : Bld w' g0 n k M := by
  obtain ⟨f, P, A, c, hr, hf, hc⟩ := h
  exact ⟨f, P, A, c, hr.of_block (hb.block _ hr.lt), hf, fun i hi => ⟨(hc i hi).1.keep (fun b hp => hb.block b hp.zo.lt) hb.size, (hc i hi).2.keep (fun b cur t h _ => hb.block b (heap_lt h)) hb.size⟩⟩
theorem Bld.step {w w' : World} {g0 n k : Nat} {M : Nat → ZM} {m : ZM} {p A1 : Option Addr} {c1 : Nat} (h : Bld w g0 n k M) (hm : m = M k) (hk : k < n) (hw : w' = w.setCells g0 (k * 6) (pcl m p A1 c1)) (hp : NewLoc w p (ofZ m.L)) (hn : BN w A1 m) : Bld w' g0 n (k + 1) M ∧ w.grownBy w' (some g0) := by
  subst hm
  obtain ⟨f, P, A, c, hr, hf, hc⟩ := h
  have hg : w.grownBy w' (some g0) := by rw [hw]; exact putL_grown _ _ _ (World.grownBy.refl w _)
  have hkp : ∀ (b : Nat) (cur : Array Value) (t : TypeId), w.heap[b]? = some (Obj.cells cur t (0, 0)) → t ≠ 53 → w'.heap[b]? = w.heap[b]? := fun b cur t hb ht => hg.block b (heap_lt hb) (fun e => row_type hr hb ht (by injection e))
  have hkl : ∀ b, PL w b → w'.heap[b]? = w.heap[b]? := fun b ⟨c, hb⟩ => hkp b c _ hb (by decide)
  refine ⟨⟨fill f (k * 6) (pcl (M k) p A1 c1), upd P k p, upd A k A1, upd c k c1, by rw [hw]; exact putL_row _ _ _ _ hr, ?_, fun i hi => ?_⟩, hg⟩
  · refine Reads.step (V := fun i => pcl (M i) (upd P k p i) (upd A k A1 i) (upd c k c1 i)) (hf.congr fun i hi => ?_) (fun _ _ => rfl) _ (by simp [upd])
    simp [upd, show i ≠ k by omega]
  · by_cases hik : i = k
    · subst hik
      simp only [upd, if_true]
      exact ⟨hp.keep hkl hg.size, hn.keep hkp hg.size⟩
    · simp only [upd, if_neg hik]
      exact ⟨(hc i (by omega)).1.keep hkl hg.size, (hc i (by omega)).2.keep hkp hg.size⟩
theorem Bld.done {w : World} {g0 n : Nat} {M : Nat → ZM} (h : Bld w g0 n n M) (hS : ∀ i, i < n → (M i).n ≤ 1048576) : PubRow w (some ⟨g0, 0, none⟩) n (fun i => toP (M i)) := fun hn => by
  obtain ⟨f, P, A, c, hr, hf, hc⟩ := h
  have hz : Zo w g0 := by
    obtain ⟨cur, hg, _⟩ := hr
    exact ⟨cur, _, hg, by decide⟩
  refine ⟨g0, rfl, hz, fun i hi => ?_⟩
  have hcell : ∀ r v, (pcl (M i) (P i) (A i) (c i))[r]? = some v → w.cell? ⟨g0, i * 6 + r, none⟩ = some v := fun r v hv => by
    have hr6 : r < 6 := (List.getElem?_eq_some_iff.1 hv).1
    rw [hr.cell (show i * 6 + r < n * 6 by omega), hf i hi r v hv]
  obtain ⟨hl, hb⟩ := hc i hi
  refine ⟨hcell 0 _ rfl, hcell 1 _ rfl, hcell 2 _ rfl, hcell 5 _ rfl, hS i hi, ⟨P i, hcell 3 _ rfl, hl.is⟩, A i, c i, hcell 4 _ rfl, fun h => ?_⟩
  obtain ⟨g, e, ⟨cur, hg⟩, hj⟩ := hb h
  refine ⟨g, e, ⟨cur, _, hg, by decide⟩, fun j hjn => ?_⟩
  obtain ⟨h0, p, h1, h2⟩ := hj j hjn
  exact ⟨h0, p, h1, h2.is⟩
/-- The notes built so far, in block g. -/
def BdN (w : World) (g : Nat) (m : ZM) (j : Nat) : Prop := ∃ (f : Nat → Value) (P : Nat → Option Addr), w.rowIs g 51 (m.n * 2) f ∧ Reads f 2 j (fun i => [.string (m.T i), .pointer (P i)]) ∧ ∀ i, i < j → NewLoc w (P i) (ofZ (m.O i))
theorem BdN.keep {w w' : World} {g j : Nat} {m : ZM} (h : BdN w g m j) (hb : Below w.heap.size w w') : BdN w' g m j := by
  obtain ⟨f, P, hr, hf, hc⟩ := h
  exact ⟨f, P, hr.of_block (hb.block _ hr.lt), hf, fun i hi => (hc i hi).keep (fun b hp => hb.block b hp.zo.lt) hb.size⟩
theorem BdN.step {w w' : World} {g j : Nat} {m : ZM} {p : Option Addr} (h : BdN w g m j) (hw : w' = w.setCells g (j * 2) [.string (m.T j), .pointer p]) (hp : NewLoc w p (ofZ (m.O j))) : BdN w' g m (j + 1) ∧ w.grownBy w' (some g) := by
  obtain ⟨f, P, hr, hf, hc⟩ := h
  have hg : w.grownBy w' (some g) := by rw [hw]; exact putL_grown _ _ _ (World.grownBy.refl w _)
  have hkl : ∀ b, PL w b → w'.heap[b]? = w.heap[b]? := fun b ⟨c, hb⟩ => hg.block b (heap_lt hb) (fun e => row_type hr hb (by decide) (by injection e))
  refine ⟨⟨fill f (j * 2) [.string (m.T j), .pointer p], upd P j p, by rw [hw]; exact putL_row _ _ _ _ hr, ?_, fun i hi => ?_⟩, hg⟩
  · refine Reads.step (V := fun i => [.string (m.T i), .pointer (upd P j p i)]) (hf.congr fun i hi => ?_) (fun _ _ => rfl) _ (by simp [upd])
    simp [upd, show i ≠ j by omega]
  · by_cases hij : i = j
    · subst hij
      simp only [upd, if_true]
      exact hp.keep hkl hg.size
    · simp only [upd, if_neg hij]
      exact (hc i (by omega)).keep hkl hg.size
theorem BdN.bn {w : World} {g : Nat} {m : ZM} (h : BdN w g m m.n) : BN w (some ⟨g, 0, none⟩) m := fun hn => by
  obtain ⟨f, P, hr, hf, hc⟩ := h
  have hr' := hr
  obtain ⟨cur, hg, _⟩ := hr'
  refine ⟨g, rfl, ⟨cur, hg⟩, fun j hj => ?_⟩
  refine ⟨?_, P j, ?_, hc j hj⟩
  · rw [hr.cell (show j * 2 < m.n * 2 by omega)]
    exact congrArg some (hf j hj 0 _ rfl)
  · rw [hr.cell (show j * 2 + 1 < m.n * 2 by omega)]
    exact congrArg some (hf j hj 1 _ rfl)
theorem bn0 (w : World) (m : ZM) (h : m.n = 0) : BN w none m := fun hn => by omega
end Go.Proofs.Ytippmlajjkdblaa
