/- cloneMsgs: a copy that reads the same. -/
import Derived.Test.YtippmlajjkdblaaQd
import Derived.Deep.MidRow
namespace Go.Proofs.Ytippmlajjkdblaa
open Go.RowKit
set_option linter.unusedVariables false
set_option linter.unusedSimpArgs false
/-- 'make([]T, n)' for a T of any number of cells. -/
theorem mk_full {t e : TypeId} {z : Value} {s b : Nat} (ht : Try.prog.underlying t = some (.slice e)) (hi : (Try.prog.info? e).map (fun i => (i.zero, i.size, i.bytes)) = some (some z, s, b)) (n : Nat) (hb : b * n ≤ 281474976710656) (hn : n ≤ 1048576) :
    ∃ row : Array Value, row.size = n * s ∧ ∀ w, (Instr.makeSlice t (.int .i64 (n : Int)) (.int .i64 (n : Int))).run Try.prog w = .ok (.slice (some ⟨w.heap.size, 0, none⟩) n n) (w.alloc (.cells row e)) := by
  obtain ⟨i, h0, h1, h2, h3⟩ := info_parts hi
  subst h2 h3
  refine ⟨madeCells z.cells (n * i.size), size_madeCells _ _, fun w => ?_⟩
  have hb' : (i.bytes : Int) * (n : Int) ≤ 281474976710656 := by
    have h : ((i.bytes * n : Nat) : Int) ≤ 281474976710656 := by omega
    rwa [Int.natCast_mul] at h
  have hr := run_make (P := Try.prog) w t e i z ht h0 h1 .i64 .i64 n n (by omega) (Int.le_refl _) hb' (by omega)
  simpa only [Int.toNat_natCast] using hr
theorem fresh_row (w : World) (row : Array Value) (t : TypeId) : ∃ f, (w.alloc (.cells row t)).rowIs w.heap.size t row.size f :=
  ⟨fun i => row[i]?.getD undef, World.rowIs_alloc w row t _ fun i hi => by rw [Array.getElem?_eq_getElem hi]; rfl⟩
def fill (f : Nat → Value) (o : Nat) : List Value → Nat → Value
  | [] => f
  | v :: vs => fill (fun j => if j = o then v else f j) (o + 1) vs
theorem putL_row {g t S : Nat} : ∀ (vs : List Value) (w : World) (f : Nat → Value) (o : Nat), w.rowIs g t S f → (w.setCells g o vs).rowIs g t S (fill f o vs)
  | [], w, f, o, h => h
  | v :: vs, w, f, o, h => putL_row vs _ _ _ (h.set o v)
theorem putL_grown {a : World} {g : Nat} : ∀ (vs : List Value) (w : World) (o : Nat), a.grownBy w (some g) → a.grownBy (w.setCells g o vs) (some g)
  | [], w, o, h => h
  | v :: vs, w, o, h => putL_grown vs _ _ (only_setCell (p := ⟨g, o, none⟩) h (.inl rfl) v)
theorem row_there {w : World} {g t S o n : Nat} {f : Nat → Value} (h : w.rowIs g t S f) (hn : o + n ≤ S) : w.there g o n := fun j hj => ⟨by rw [h.cell (by omega)]; rfl, h.frozen _⟩
theorem fill_old : ∀ (vs : List Value) (f : Nat → Value) (o i : Nat), (i < o ∨ o + vs.length ≤ i) → fill f o vs i = f i
  | [], f, o, i, h => rfl
  | v :: vs, f, o, i, h => by
    have hl : (v :: vs).length = vs.length + 1 := rfl
    rw [fill, fill_old vs _ _ _ (by omega), if_neg (by omega)]
theorem fill_new : ∀ (vs : List Value) (f : Nat → Value) (o r : Nat) (v : Value), vs[r]? = some v → fill f o vs (o + r) = v
  | [], f, o, r, v, h => by cases h
  | u :: vs, f, o, 0, v, h => by
    rw [fill, fill_old vs _ _ _ (by omega)]
    simpa using h
  | u :: vs, f, o, r + 1, v, h => by
    rw [fill, show o + (r + 1) = o + 1 + r by omega]
    exact fill_new vs _ _ r v (by simpa using h)
/-- A note's cells. -/
abbrev ncs (T : ByteArray) (z : ZLo) : List Value := [.string T, .bool z.P, .string z.F, .string z.N, .int .i64 z.i, .int .i64 z.j, .int .i64 z.k, .string z.T, .string z.S]
abbrev mcl (m : ZM) (An : Option Addr) (cn : Nat) : List Value := [.string m.I, .string m.G, .string m.X, .bool m.L.P, .string m.L.F, .string m.L.N, .int .i64 m.L.i, .int .i64 m.L.j, .int .i64 m.L.k, .string m.L.T, .string m.L.S, .slice An m.n cn]
/-- The first k rows of s cells read so. -/
def Reads (f : Nat → Value) (s k : Nat) (V : Nat → List Value) : Prop := ∀ i, i < k → ∀ r v, (V i)[r]? = some v → f (i * s + r) = v
theorem Reads.zero (f : Nat → Value) (s : Nat) (V : Nat → List Value) : Reads f s 0 V := fun i hi => absurd hi (by omega)
theorem Reads.step {f : Nat → Value} {s k : Nat} {V : Nat → List Value} (h : Reads f s k V) (hV : ∀ i, i < k → (V i).length = s) (vs : List Value) (e : V k = vs) : Reads (fill f (k * s) vs) s (k + 1) V := fun i hi r v hr => by
  by_cases hk : i < k
  · have hrs : r < s := by rw [← hV i hk]; exact (List.getElem?_eq_some_iff.1 hr).1
    have : i * s + s ≤ k * s := by
      rw [← Nat.succ_mul]
      exact Nat.mul_le_mul_right s hk
    rw [fill_old vs f _ _ (by omega)]
    exact h i hk r v hr
  · obtain rfl : i = k := by omega
    subst e
    exact fill_new _ f _ r v hr
theorem Reads.congr {f : Nat → Value} {s k : Nat} {V V' : Nat → List Value} (h : Reads f s k V) (e : ∀ i, i < k → V' i = V i) : Reads f s k V' := fun i hi r v hr => h i hi r v (by rw [← e i hi]; exact hr)
theorem ncells_of {w : World} {g t S q : Nat} {f : Nat → Value} {T : ByteArray} {z : ZLo} (hr : w.rowIs g t S f) (hS : q + 9 ≤ S) (h : ∀ r v, (ncs T z)[r]? = some v → f (q + r) = v) (hT : T.size ≤ 9223372036854775807) (hz : z.Ok) : NCells w g q T z := by
  have hc : ∀ r v, (ncs T z)[r]? = some v → w.cell? ⟨g, q + r, none⟩ = some v := fun r v hv => by
    have hr9 : r < 9 := (List.getElem?_eq_some_iff.1 hv).1
    rw [hr.cell (show q + r < S by omega), h r v hv]
  refine ⟨hc 0 _ rfl, hT, lcells hz fun j v hj => ?_⟩
  rw [Nat.add_assoc, Nat.add_comm 1 j]
  exact hc (j + 1) v hj
/-- A copied message's notes: in a block other than g0. -/
def CN (w : World) (g0 : Nat) (A : Option Addr) (m : ZM) : Prop := 0 < m.n → ∃ b, A = some ⟨b, 0, none⟩ ∧ b ≠ g0 ∧ b < w.heap.size ∧ ∀ j, j < m.n → NCells w b (j * 9) (m.T j) (m.O j)
theorem CN.keep {w w' : World} {g0 : Nat} {A : Option Addr} {m : ZM} (h : CN w g0 A m) (hk : ∀ b, b < w.heap.size → b ≠ g0 → w'.heap[b]? = w.heap[b]?) (hs : w.heap.size ≤ w'.heap.size) : CN w' g0 A m := fun hn => by
  obtain ⟨b, e, hb, hlt, hc⟩ := h hn
  exact ⟨b, e, hb, by omega, fun j hj => (hc j hj).keep (hk b hlt hb)⟩
/-- What has been copied so far. -/
def Cln (w : World) (g0 n k : Nat) (M : Nat → ZM) : Prop :=
  ∃ (f : Nat → Value) (A : Nat → Option Addr) (c : Nat → Nat), w.rowIs g0 43 (n * 12) f ∧ Reads f 12 k (fun i => mcl (M i) (A i) (c i)) ∧ ∀ i, i < k → CN w g0 (A i) (M i) ∧ (A i = none → c i = 0) ∧ (M i).n ≤ c i ∧ c i ≤ 9223372036854775807
theorem Cln.keep {w w' : World} {g0 n k : Nat} {M : Nat → ZM} (h : Cln w g0 n k M) (hb : Below w.heap.size w w') : Cln w' g0 n k M := by
  obtain ⟨f, A, c, hr, hf, hc⟩ := h
  exact ⟨f, A, c, hr.of_block (hb.block _ hr.lt), hf, fun i hi => ⟨(hc i hi).1.keep (fun b hb' _ => hb.block b hb') hb.size, (hc i hi).2⟩⟩
theorem Cln.step {w w' : World} {g0 n k : Nat} {M : Nat → ZM} {m : ZM} {A1 : Option Addr} {c1 : Nat} (h : Cln w g0 n k M) (hm : m = M k) (hk : k < n) (hw : w' = w.setCells g0 (k * 12) (mcl m A1 c1)) (hcn : CN w g0 A1 m) (h0 : A1 = none → c1 = 0) (hle : m.n ≤ c1) (hmx : c1 ≤ 9223372036854775807) : Cln w' g0 n (k + 1) M ∧ w.grownBy w' (some g0) := by
  subst hm
  obtain ⟨f, A, c, hr, hf, hc⟩ := h
  have hg : w.grownBy w' (some g0) := by rw [hw]; exact putL_grown _ _ _ (World.grownBy.refl w _)
  have hkp : ∀ b, b < w.heap.size → b ≠ g0 → w'.heap[b]? = w.heap[b]? := fun b hb hne => hg.block b hb (fun e => hne (by injection e))
  refine ⟨⟨fill f (k * 12) (mcl (M k) A1 c1), upd A k A1, upd c k c1, by rw [hw]; exact putL_row _ _ _ _ hr, ?_, fun i hi => ?_⟩, hg⟩
  · refine Reads.step (V := fun i => mcl (M i) (upd A k A1 i) (upd c k c1 i)) (hf.congr fun i hi => ?_) (fun _ _ => rfl) _ (by simp [upd])
    simp [upd, show i ≠ k by omega]
  · by_cases hik : i = k
    · subst hik
      simp only [upd, if_true]
      exact ⟨hcn.keep hkp hg.size, h0, hle, hmx⟩
    · simp only [upd, if_neg hik]
      exact ⟨(hc i (by omega)).1.keep hkp hg.size, (hc i (by omega)).2⟩
theorem Cln.done {w w0 : World} {B g0 n : Nat} {A : Option Addr} {M : Nat → ZM} (h : Cln w g0 n n M) (ho : InMsgs w0 B A n M) : InMsgs w w.heap.size (some ⟨g0, 0, none⟩) n M := fun hn => by
  obtain ⟨f, A', c, hr, hf, hc⟩ := h
  obtain ⟨b, o, _, _, hm⟩ := ho hn
  refine ⟨g0, 0, rfl, hr.lt, fun i hi => ?_⟩
  obtain ⟨_, _, _, k0, k1, k2, ⟨_, _, _, _, _, _, _, _, ok⟩, _⟩ := hm i hi
  have hcell : ∀ r v, (mcl (M i) (A' i) (c i))[r]? = some v → w.cell? ⟨g0, 0 + i * 12 + r, none⟩ = some v := fun r v hv => by
    have hr12 : r < 12 := (List.getElem?_eq_some_iff.1 hv).1
    rw [Nat.zero_add, hr.cell (show i * 12 + r < n * 12 by omega), hf i hi r v hv]
  obtain ⟨hcn, h0, hle, hmx⟩ := hc i hi
  refine ⟨hcell 0 _ rfl, hcell 1 _ rfl, hcell 2 _ rfl, k0, k1, k2, ⟨hcell 3 _ rfl, hcell 4 _ rfl, hcell 5 _ rfl, hcell 6 _ rfl, hcell 7 _ rfl, hcell 8 _ rfl, hcell 9 _ rfl, hcell 10 _ rfl, ok⟩, A' i, c i, hcell 11 _ rfl, fun h => ?_, h0, hle, hmx⟩
  obtain ⟨b', e, _, hlt, hc'⟩ := hcn h
  exact ⟨b', 0, e, hlt, fun j hj => by rw [Nat.zero_add]; exact hc' j hj⟩
theorem Cln.there {w : World} {g0 n k : Nat} {M : Nat → ZM} (h : Cln w g0 n k M) (hk : k < n) : w.there g0 (k * 12) 12 := by
  obtain ⟨f, A, c, hr, _⟩ := h
  exact row_there hr (by omega)
/-- The notes copied so far, in block g. -/
def CpN (w : World) (g : Nat) (m : ZM) (j : Nat) : Prop := ∃ f, w.rowIs g 45 (m.n * 9) f ∧ Reads f 9 j (fun i => ncs (m.T i) (m.O i))
theorem CpN.step {w w' : World} {g j : Nat} {m : ZM} (h : CpN w g m j) (hw : w' = w.setCells g (j * 9) (ncs (m.T j) (m.O j))) : CpN w' g m (j + 1) ∧ w.grownBy w' (some g) := by
  obtain ⟨f, hr, hf⟩ := h
  exact ⟨⟨_, by rw [hw]; exact putL_row _ _ _ _ hr, hf.step (fun _ _ => rfl) _ rfl⟩, by rw [hw]; exact putL_grown _ _ _ (World.grownBy.refl w _)⟩
theorem CpN.there {w : World} {g j : Nat} {m : ZM} (h : CpN w g m j) (hj : j < m.n) : w.there g (j * 9) 9 := by
  obtain ⟨f, hr, _⟩ := h
  exact row_there hr (by omega)
theorem CpN.cn {w w0 : World} {B g g0 : Nat} {m : ZM} {A : Option Addr} (h : CpN w g m m.n) (hg : g ≠ g0) (ho : InNotes w0 B A m.n m.T m.O) : CN w g0 (some ⟨g, 0, none⟩) m := fun hn => by
  obtain ⟨f, hr, hf⟩ := h
  obtain ⟨b, o, _, _, hc⟩ := ho hn
  refine ⟨g, rfl, hg, hr.lt, fun j hj => ?_⟩
  obtain ⟨_, hT, ⟨_, _, _, _, _, _, _, _, ok⟩⟩ := hc j hj
  exact ncells_of hr (by omega) (hf j hj) hT ok
theorem CN.keepSet {w : World} {g g0 : Nat} {m : ZM} (h : CN w g0 (some ⟨g, 0, none⟩) m) (b : Nat) (hb : g ≠ b) (v : Value) {i : Nat} : CN (w.setCell ⟨b, i, none⟩ v) g0 (some ⟨g, 0, none⟩) m := fun hn => by
  obtain ⟨b', e, h1, h2, hc⟩ := h hn
  injection e with e
  injection e with e
  subst e
  exact ⟨g, rfl, h1, by simpa [World.setCell] using h2, fun j hj => (hc j hj).keep (Below.heap_setCell w _ v g hb)⟩
end Go.Proofs.Ytippmlajjkdblaa
