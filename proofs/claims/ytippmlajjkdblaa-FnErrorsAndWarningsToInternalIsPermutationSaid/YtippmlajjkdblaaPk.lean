/- Public messages; what a call keeps. -/
import Derived.Test.YtippmlajjkdblaaPj
import Derived.Deep.LoopGhost
import Derived.Deep.RegionWith
import Derived.Deep.RegionLaw
import Derived.Deep.AppendLies
import Derived.OwnWalk
namespace Go.Proofs.Ytippmlajjkdblaa
open Go.RowKit
set_option linter.unusedVariables false
set_option linter.unusedSimpArgs false
theorem heap_lt {w : World} {b : Nat} {o : Obj} (h : w.heap[b]? = some o) : b < w.heap.size := (Array.getElem?_eq_some_iff.1 h).1
theorem heap_new_at {w : World} {o : Obj} {n : Nat} (h : n = w.heap.size) : (w.alloc o).heap[n]? = some o := by subst h; exact heap_alloc_new w o
/-- Blocks of cells that are no row of messages. -/
def Zo (w : World) : Nat → Prop := fun b => ∃ cur t, w.heap[b]? = some (.cells cur t (0, 0)) ∧ t ≠ 38
theorem Zo.lt {w : World} {b : Nat} (h : Zo w b) : b < w.heap.size := by
  obtain ⟨cur, t, e, _⟩ := h
  exact heap_lt e
theorem Zo.of {w w' : World} {b : Nat} (h : Zo w b) (e : w'.heap[b]? = w.heap[b]?) : Zo w' b := by
  obtain ⟨cur, t, h1, h2⟩ := h
  exact ⟨cur, t, e.trans h1, h2⟩
/-- What lies below L is kept, and whatever is no row of messages. -/
structure Kt (L : Nat) (w w' : World) : Prop where
  os : w'.os = w.os
  tape : w'.tape = w.tape
  output : w'.output = w.output
  size : w.heap.size ≤ w'.heap.size
  low : ∀ g, g < L → w'.heap[g]? = w.heap[g]?
  oth : ∀ g, Zo w g → w'.heap[g]? = w.heap[g]?
theorem Kt.refl (L : Nat) (w : World) : Kt L w w := ⟨rfl, rfl, rfl, Nat.le_refl _, fun _ _ => rfl, fun _ _ => rfl⟩
theorem Kt.zo {L : Nat} {w w' : World} (h : Kt L w w') {g : Nat} (hz : Zo w g) : Zo w' g := hz.of (h.oth g hz)
theorem Kt.trans {L : Nat} {a b c : World} (h1 : Kt L a b) (h2 : Kt L b c) : Kt L a c :=
  ⟨h2.os.trans h1.os, h2.tape.trans h1.tape, h2.output.trans h1.output, Nat.le_trans h1.size h2.size, fun g hg => (h2.low g hg).trans (h1.low g hg), fun g hg => (h2.oth g (h1.zo hg)).trans (h1.oth g hg)⟩
theorem Kt.of_below {L : Nat} {w w' : World} (h : Below w.heap.size w w') (hL : L ≤ w.heap.size) : Kt L w w' :=
  ⟨h.os, h.tape, h.output, h.size, fun g hg => h.block g (by omega), fun g hg => h.block g hg.lt⟩
theorem Kt.below {L : Nat} {w w' : World} (h : Kt L w w') : Below L w w' := ⟨h.os, h.tape, h.output, h.size, h.low⟩
/-- A block of another element type is not the row's. -/
theorem row_other {w : World} {base t0 t size n b : Nat} {v : Value} {xs : List Value} {cur : Array Value} (ho : w.ownsRow base t0 size v n xs) (hb : w.heap[b]? = some (.cells cur t (0, 0))) (ht : t ≠ t0) : some b ≠ v.ownBlock := fun e => by
  rcases ho.2 with ⟨rfl, _⟩ | ⟨g', cap, cur', rfl, _, hgg, _⟩
  · simp [Value.ownBlock] at e
  · simp [Value.ownBlock] at e
    subst e
    rw [hgg] at hb
    injection hb with hb
    injection hb with _ hb
    exact ht hb.symm
theorem Kt.of_grown {L size n : Nat} {w w' : World} {v : Value} {xs : List Value} (ho : w.ownsRow L 38 size v n xs) (hg : w.grownBy w' v.ownBlock) (hL : L ≤ w.heap.size) : Kt L w w' := by
  refine ⟨hg.os, hg.tape, hg.output, hg.size, fun g h => hg.block g (by omega) fun e => ?_, fun g hz => ?_⟩
  · have := (ho.lt g e.symm).1
    omega
  · obtain ⟨cur, t, h1, h2⟩ := hz
    exact hg.block g (heap_lt h1) (row_other ho h1 h2)
theorem own_below {base t0 size n : Nat} {w w' : World} {v : Value} {xs : List Value} (h : w.ownsRow base t0 size v n xs) (hb : Below w.heap.size w w') : w'.ownsRow base t0 size v n xs :=
  h.kept (row := none) (only_of_below hb none) (by cases v.ownBlock <;> simp)
structure PubA where
  F : ByteArray
  N : ByteArray
  i : Int
  j : Int
  k : Int
  T : ByteArray
  S : ByteArray
structure Pub (w : World) (b : Nat) (p : PubA) : Prop where
  c0 : w.cell? ⟨b, 0, none⟩ = some (.string p.F)
  c1 : w.cell? ⟨b, 1, none⟩ = some (.string p.N)
  c2 : w.cell? ⟨b, 2, none⟩ = some (.int .i64 p.i)
  c3 : w.cell? ⟨b, 3, none⟩ = some (.int .i64 p.j)
  c4 : w.cell? ⟨b, 4, none⟩ = some (.int .i64 p.k)
  c5 : w.cell? ⟨b, 5, none⟩ = some (.string p.T)
  c6 : w.cell? ⟨b, 6, none⟩ = some (.string p.S)
  lt : b < w.heap.size
theorem Pub.of {w : World} {b t : Nat} {p : PubA} (h : w.heap[b]? = some (.cells #[.string p.F, .string p.N, .int .i64 p.i, .int .i64 p.j, .int .i64 p.k, .string p.T, .string p.S] t (0, 0))) : Pub w b p := by
  refine ⟨?_, ?_, ?_, ?_, ?_, ?_, ?_, heap_lt h⟩ <;> rw [Lib.cell_of_heap h] <;> rfl
theorem Raw.of {w : World} {b t : Nat} {L : LocA} (h : w.heap[b]? = some (.cells #[.string L.A, .string L.R, .string L.N, .string L.T, .string L.S, .int .i64 L.i, .int .i64 L.j, .int .i64 L.k] t (0, 0))) : Raw w b L := by
  refine ⟨?_, ?_, ?_, ?_, ?_, ?_, ?_, ?_, heap_lt h⟩ <;> rw [Lib.cell_of_heap h] <;> rfl
theorem Pub.keep {w w' : World} {b : Nat} {p : PubA} (h : Pub w b p) (hk : w'.heap[b]? = w.heap[b]?) (hs : w.heap.size ≤ w'.heap.size) : Pub w' b p := by
  have e : ∀ i, w'.cell? ⟨b, i, none⟩ = w.cell? ⟨b, i, none⟩ := fun i => by simp only [World.cell?, hk]
  exact ⟨(e _).trans h.c0, (e _).trans h.c1, (e _).trans h.c2, (e _).trans h.c3, (e _).trans h.c4, (e _).trans h.c5, (e _).trans h.c6, Nat.lt_of_lt_of_le h.lt hs⟩
def IsLoc (w : World) (p : Option Addr) : Option PubA → Prop
  | none => p = none
  | some P => ∃ b, p = some ⟨b, 0, none⟩ ∧ Zo w b ∧ Pub w b P
theorem IsLoc.keep {L : Nat} {w w' : World} {p : Option Addr} {o : Option PubA} (h : IsLoc w p o) (hk : Kt L w w') : IsLoc w' p o := by
  cases o with
  | none => exact h
  | some P => obtain ⟨g, rfl, hg, hp⟩ := h; exact ⟨g, rfl, hk.zo hg, hp.keep (hk.oth g hg) hk.size⟩
def nsOf (N : ByteArray) : ByteArray := if N.toList.isEmpty = true then ⟨#[102, 105, 108, 101]⟩ else N
def intOf (p : PubA) : LocA := ⟨p.F, p.F, nsOf p.N, p.T, p.S, p.i, p.j, p.k⟩
/-- A public message. -/
structure MsgP where
  id : ByteArray
  plugin : ByteArray
  text : ByteArray
  loc : Option PubA
  n : Nat
  T : Nat → ByteArray
  O : Nat → Option PubA
noncomputable def toR (kind : Int) (m : MsgP) : MsgR := ⟨m.plugin, m.text, m.loc.map intOf, m.n, m.T, fun j => (m.O j).map intOf, kind, mid m.id⟩
def IsPubNotes (w : World) (A : Option Addr) (n : Nat) (T : Nat → ByteArray) (O : Nat → Option PubA) : Prop :=
  0 < n → ∃ g, A = some ⟨g, 0, none⟩ ∧ Zo w g ∧ ∀ j, j < n → w.cell? ⟨g, j * 2, none⟩ = some (.string (T j)) ∧ ∃ p, w.cell? ⟨g, j * 2 + 1, none⟩ = some (.pointer p) ∧ IsLoc w p (O j)
theorem IsPubNotes.keep {L : Nat} {w w' : World} {A : Option Addr} {n : Nat} {T : Nat → ByteArray} {O : Nat → Option PubA} (h : IsPubNotes w A n T O) (hk : Kt L w w') : IsPubNotes w' A n T O := fun hn => by
  obtain ⟨g, rfl, hz, hc⟩ := h hn
  have e : ∀ i, w'.cell? ⟨g, i, none⟩ = w.cell? ⟨g, i, none⟩ := fun i => by simp only [World.cell?, hk.oth g hz]
  refine ⟨g, rfl, hk.zo hz, fun j hj => ?_⟩
  obtain ⟨h0, p, h1, hl⟩ := hc j hj
  exact ⟨(e _).trans h0, p, (e _).trans h1, hl.keep hk⟩
structure IsPubMsg (w : World) (b i : Nat) (m : MsgP) : Prop where
  c0 : w.cell? ⟨b, i * 6, none⟩ = some (.string m.id)
  c1 : w.cell? ⟨b, i * 6 + 1, none⟩ = some (.string m.plugin)
  c2 : w.cell? ⟨b, i * 6 + 2, none⟩ = some (.string m.text)
  c5 : w.cell? ⟨b, i * 6 + 5, none⟩ = some .nilIface
  le : m.n ≤ 1048576
  loc : ∃ p, w.cell? ⟨b, i * 6 + 3, none⟩ = some (.pointer p) ∧ IsLoc w p m.loc
  notes : ∃ A c, w.cell? ⟨b, i * 6 + 4, none⟩ = some (.slice A m.n c) ∧ IsPubNotes w A m.n m.T m.O
theorem IsPubMsg.keep {L : Nat} {w w' : World} {b i : Nat} {m : MsgP} (h : IsPubMsg w b i m) (hk : Kt L w w') (hz : Zo w b) : IsPubMsg w' b i m := by
  have e : ∀ i, w'.cell? ⟨b, i, none⟩ = w.cell? ⟨b, i, none⟩ := fun i => by simp only [World.cell?, hk.oth b hz]
  obtain ⟨p, h3, hl⟩ := h.loc
  obtain ⟨A, c, h4, hn⟩ := h.notes
  exact ⟨(e _).trans h.c0, (e _).trans h.c1, (e _).trans h.c2, (e _).trans h.c5, h.le, ⟨p, (e _).trans h3, hl.keep hk⟩, ⟨A, c, (e _).trans h4, hn.keep hk⟩⟩
def PubRow (w : World) (A : Option Addr) (n : Nat) (M : Nat → MsgP) : Prop := 0 < n → ∃ b, A = some ⟨b, 0, none⟩ ∧ Zo w b ∧ ∀ i, i < n → IsPubMsg w b i (M i)
theorem PubRow.keep {L : Nat} {w w' : World} {A : Option Addr} {n : Nat} {M : Nat → MsgP} (h : PubRow w A n M) (hk : Kt L w w') : PubRow w' A n M := fun hn => by
  obtain ⟨b, rfl, hz, hc⟩ := h hn
  exact ⟨b, rfl, hk.zo hz, fun i hi => (hc i hi).keep hk hz⟩
theorem IsG.kt {L : Nat} {w w' : World} {q : Grp} {m : MsgR} (h : IsG w (Zo w) q m) (hk : Kt L w w') : IsG w' (Zo w') q m := h.keep (fun g hg _ => hk.zo hg) (fun g hg _ => hk.oth g hg) hk.size
/-- Blocks that hold a raw location. -/
def ZL (w : World) : Nat → Prop := fun b => ∃ cur, w.heap[b]? = some (.cells cur 64 (0, 0))
theorem ZL.zo {w : World} {g : Nat} (h : ZL w g) : Zo w g := by
  obtain ⟨cur, e⟩ := h
  exact ⟨cur, _, e, by decide⟩
theorem ZL.of {w w' : World} {g : Nat} (h : ZL w g) (e : w'.heap[g]? = w.heap[g]?) : ZL w' g := by
  obtain ⟨cur, e'⟩ := h
  exact ⟨cur, e.trans e'⟩
theorem IsRaw.zl {w w' : World} {l : Option Nat} {o : Option LocA} (h : IsRaw w (ZL w) l o) (hk : ∀ g, ZL w g → w'.heap[g]? = w.heap[g]?) (hs : w.heap.size ≤ w'.heap.size) : IsRaw w' (ZL w') l o := h.keep (fun g hg _ => hg.of (hk g hg)) (fun g hg _ => hk g hg) hs
theorem IsRaw.zo {w : World} {l : Option Nat} {o : Option LocA} (h : IsRaw w (ZL w) l o) : IsRaw w (Zo w) l o := h.keep (fun g hg _ => hg.zo) (fun _ _ _ => rfl) (Nat.le_refl _)
theorem IsRaw.zlBelow {w w' : World} {l : Option Nat} {o : Option LocA} (h : IsRaw w (ZL w) l o) (hb : Below w.heap.size w w') : IsRaw w' (ZL w') l o := h.zl (fun g hg => hb.block g hg.zo.lt) hb.size
/-- A list of cells that reads as raw notes. -/
def NotesAt (w : World) (xs : List Value) (n : Nat) (T : Nat → ByteArray) (O : Nat → Option LocA) : Prop :=
  xs.length = n * 4 ∧ ∀ j, j < n → xs[j * 4]? = some .nilIface ∧ xs[j * 4 + 2]? = some (.string (T j)) ∧ xs[j * 4 + 3]? = some (.bool false) ∧ ∃ l, xs[j * 4 + 1]? = some (locv l) ∧ IsRaw w (ZL w) l (O j)
theorem NotesAt.nil (w : World) (T : Nat → ByteArray) (O : Nat → Option LocA) : NotesAt w [] 0 T O := ⟨rfl, fun j hj => absurd hj (by omega)⟩
theorem NotesAt.snoc {w : World} {xs : List Value} {k : Nat} {T : Nat → ByteArray} {O : Nat → Option LocA} (h : NotesAt w xs k T O) {l : Option Nat} (hl : IsRaw w (ZL w) l (O k)) : NotesAt w (xs ++ [.nilIface, locv l, .string (T k), .bool false]) (k + 1) T O := by
  have hlen := h.1
  refine ⟨by simp; omega, fun j hj => ?_⟩
  by_cases hk : j < k
  · obtain ⟨a, a2, a3, v, b, c⟩ := h.2 j hk
    exact ⟨by rw [List.getElem?_append_left (by omega)]; exact a, by rw [List.getElem?_append_left (by omega)]; exact a2, by rw [List.getElem?_append_left (by omega)]; exact a3, v, by rw [List.getElem?_append_left (by omega)]; exact b, c⟩
  · obtain rfl : j = k := by omega
    refine ⟨?_, ?_, ?_, l, ?_, hl⟩
    · rw [List.getElem?_append_right (by omega), show j * 4 - xs.length = 0 by omega]; rfl
    · rw [List.getElem?_append_right (by omega), show j * 4 + 2 - xs.length = 2 by omega]; rfl
    · rw [List.getElem?_append_right (by omega), show j * 4 + 3 - xs.length = 3 by omega]; rfl
    · rw [List.getElem?_append_right (by omega), show j * 4 + 1 - xs.length = 1 by omega]; rfl
theorem NotesAt.keep {w w' : World} {xs : List Value} {n : Nat} {T : Nat → ByteArray} {O : Nat → Option LocA} (h : NotesAt w xs n T O) (hk : ∀ g, ZL w g → w'.heap[g]? = w.heap[g]?) (hs : w.heap.size ≤ w'.heap.size) : NotesAt w' xs n T O :=
  ⟨h.1, fun j hj => by obtain ⟨a, a2, a3, v, b, c⟩ := h.2 j hj; exact ⟨a, a2, a3, v, b, c.zl hk hs⟩⟩
theorem NotesAt.below {w w' : World} {xs : List Value} {n : Nat} {T : Nat → ByteArray} {O : Nat → Option LocA} (h : NotesAt w xs n T O) (hb : Below w.heap.size w w') : NotesAt w' xs n T O := h.keep (fun g hg => hb.block g hg.zo.lt) hb.size
theorem NotesAt.step {b0 size k n : Nat} {w w' : World} {v : Value} {xs ys : List Value} {T : Nat → ByteArray} {O : Nat → Option LocA} {l : Option Nat} (h : NotesAt w xs k T O) (ho : w.ownsRow b0 36 size v n ys) (hg : w.grownBy w' v.ownBlock)
    (hl : IsRaw w (ZL w) l (O k)) : NotesAt w' (xs ++ [.nilIface, locv l, .string (T k), .bool false]) (k + 1) T O :=
  (h.snoc hl).keep (fun g ⟨cur, e⟩ => hg.block g (heap_lt e) (row_other ho e (by decide))) hg.size
theorem NotesAt.is {w : World} {xs : List Value} {n base c : Nat} {A : Option Addr} {T : Nat → ByteArray} {O : Nat → Option LocA} (h : NotesAt w xs n T O) (ho : w.ownsRow base 36 4 (.slice A n c) n xs) (h0 : n = 0 → A = none ∧ c = 0) : IsRawNotes w (Zo w) A n c n T O := by
  refine ⟨rfl, ?_⟩
  by_cases hn : n = 0
  · exact Or.inl ⟨hn, (h0 hn).1, (h0 hn).2⟩
  · obtain ⟨_, hv | ⟨g, cap, cur, hv, hb, hg, hr⟩⟩ := ho
    · exact absurd hv.2 hn
    · injection hv with hA hl hc
      subst hA hc
      refine Or.inr ⟨by omega, g, rfl, ⟨cur, _, hg, by decide⟩, heap_lt hg, fun j hj => ?_⟩
      have hO : w.ownsRow base 36 4 (.slice (some ⟨g, 0, none⟩) n c) n xs := ⟨h.1, Or.inr ⟨g, c, cur, rfl, hb, hg, hr⟩⟩
      obtain ⟨a, a2, a3, l, b, c⟩ := h.2 j hj
      exact ⟨(hO.cellAt _ (by omega)).trans a, (hO.cellAt _ (by omega)).trans a2, (hO.cellAt _ (by omega)).trans a3, l, (hO.cellAt _ (by omega)).trans b, c.zo⟩
/-- A list of cells that reads as messages. -/
def GrpAt (w : World) (xs : List Value) (n : Nat) (P : PQ) : Prop :=
  xs.length = n * 8 ∧ ∀ i, i < n → (∀ j, j < 8 → xs[i * 8 + j]? = (gcells (P i).1)[j]?) ∧ IsG w (Zo w) (P i).1 (P i).2
theorem GrpAt.nil (w : World) (P : PQ) : GrpAt w [] 0 P := ⟨rfl, fun i hi => absurd hi (by omega)⟩
theorem GrpAt.snoc {w : World} {xs : List Value} {n : Nat} {P : PQ} (h : GrpAt w xs n P) {q : Grp} {m : MsgR} (hq : IsG w (Zo w) q m) : GrpAt w (xs ++ gcells q) (n + 1) (upd P n (q, m)) := by
  have hlen := h.1
  refine ⟨by simp [gcells]; omega, fun i hi => ?_⟩
  by_cases hk : i < n
  · obtain ⟨a, b⟩ := h.2 i hk
    have e : upd P n (q, m) i = P i := by simp [upd, show i ≠ n by omega]
    rw [e]
    exact ⟨fun j hj => by rw [List.getElem?_append_left (by omega)]; exact a j hj, b⟩
  · obtain rfl : i = n := by omega
    have e : upd P i (q, m) i = (q, m) := by simp [upd]
    rw [e]
    exact ⟨fun j hj => by rw [List.getElem?_append_right (by omega), show i * 8 + j - xs.length = j by omega], hq⟩
theorem GrpAt.keep {L : Nat} {w w' : World} {xs : List Value} {n : Nat} {P : PQ} (h : GrpAt w xs n P) (hk : Kt L w w') : GrpAt w' xs n P := ⟨h.1, fun i hi => ⟨(h.2 i hi).1, (h.2 i hi).2.kt hk⟩⟩
theorem GrpAt.row {w : World} {xs : List Value} {n base c g : Nat} {P : PQ} (h : GrpAt w xs n P) (ho : w.ownsRow base 38 8 (.slice (some ⟨g, 0, none⟩) n c) n xs) : MRow w g n (fstQ P) := by
  have hO := ho
  obtain ⟨hl, hv | ⟨g', cap, cur, hv, hb, hg, hr⟩⟩ := ho
  · cases hv.1
  · injection hv with hA hl2 hc
    injection hA with hA
    injection hA with hA
    subst hA hc
    refine ⟨cur, hg, ?_, fun i hi j hj => ?_⟩
    · by_cases hn : n = 0
      · omega
      · have h1 := (h.2 (n - 1) (by omega)).1 7 (by omega)
        have h2 := hO.cellAt ((n - 1) * 8 + 7) (by omega)
        rw [Lib.cell_of_heap hg, h1] at h2
        have h3 : cur[(n - 1) * 8 + 7]? = some (.int .u8 (P (n - 1)).1.id) := h2
        have := (Array.getElem?_eq_some_iff.1 h3).1
        omega
    · have h2 := hO.cellAt (i * 8 + j) (by omega)
      rw [Lib.cell_of_heap hg] at h2
      exact h2.trans ((h.2 i hi).1 j hj)
theorem infoData : (Try.prog.info? 36).map (fun i => (i.zero, i.size, i.bytes)) = some (some (.agg #[.nilIface, .pointer none, .string ⟨#[]⟩, .bool false]), 4, 48) := by kernel_rfl
theorem infoMsg : (Try.prog.info? 38).map (fun i => (i.zero, i.size, i.bytes)) = some (some (.agg #[.slice none 0 0, .string ⟨#[]⟩, .nilIface, .pointer none, .string ⟨#[]⟩, .bool false, .int .u8 0, .int .u8 0]), 8, 96) := by kernel_rfl
end Go.Proofs.Ytippmlajjkdblaa
