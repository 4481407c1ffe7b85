/- Lists of cells that read as raw notes and raw messages; the picks with their bounds. -/
import Derived.Test.YtnccjpkeaapefaaMk
namespace Go.Proofs.Ytnccjpkeaapefaa
open Go.RowKit
set_option linter.unusedVariables false
set_option linter.unusedSimpArgs false
/-- Blocks from base on that hold a raw location. -/
def ZR (base : Nat) (w : World) : Nat → Prop := fun b => base ≤ b ∧ ∃ cur, w.heap[b]? = some (.cells cur 45 (0, 0))
theorem ZR.zt {base b0 t0 : Nat} {w : World} (ht : 45 ≠ t0) (hb : b0 ≤ base) : ∀ g, ZR base w g → Zt b0 t0 w g := fun g ⟨h1, cur, h2⟩ => ⟨Nat.le_trans hb h1, cur, _, h2, ht⟩
theorem ZR.keep {base : Nat} {w w' : World} (hk : ∀ g, ZR base w g → g < w.heap.size → w'.heap[g]? = w.heap[g]?) : ∀ g, ZR base w g → ZR base w' g := fun g h => by
  obtain ⟨hb, cur, hc⟩ := h
  exact ⟨hb, cur, (hk g ⟨hb, cur, hc⟩ (heap_lt hc)).trans hc⟩
theorem ZR.grown {base b0 t0 size n : Nat} {w w' : World} {v : Value} {xs : List Value} (ht : 45 ≠ t0) (ho : w.ownsRow b0 t0 size v n xs) (hg : w.grownBy w' v.ownBlock) : ∀ g, ZR base w g → g < w.heap.size → w'.heap[g]? = w.heap[g]? := fun g h hlt => by
  refine hg.block g hlt fun e => ?_
  obtain ⟨hb, cur, hc⟩ := h
  rcases ho.2 with ⟨rfl, _⟩ | ⟨g', cap, cur', rfl, _, hgg, _⟩
  · simp [Value.ownBlock] at e
  · simp [Value.ownBlock] at e
    subst e
    rw [hgg] at hc
    injection hc with hc
    injection hc with _ hc
    exact ht hc.symm
def RawNotesAt (w : World) (Z : Nat → Prop) (xs : List Value) (n : Nat) (T : Nat → ByteArray) (O : Nat → Option LocA) : Prop :=
  xs.length = n * 4 ∧ ∀ j, j < n → xs[j * 4]? = some .nilIface ∧ xs[j * 4 + 2]? = some (.string (T j)) ∧ xs[j * 4 + 3]? = some (.bool false) ∧ ∃ vl, xs[j * 4 + 1]? = some vl ∧ IsRaw w Z vl (O j)
theorem RawNotesAt.nil (w : World) (Z : Nat → Prop) (T : Nat → ByteArray) (O : Nat → Option LocA) : RawNotesAt w Z [] 0 T O := ⟨rfl, fun j hj => absurd hj (by omega)⟩
theorem RawNotesAt.keep {w w' : World} {Z Z' : Nat → Prop} {xs : List Value} {n : Nat} {T : Nat → ByteArray} {O : Nat → Option LocA} (h : RawNotesAt w Z xs n T O) (hz : ∀ g, Z g → Z' g) (hk : ∀ g, Z g → g < w.heap.size → w'.heap[g]? = w.heap[g]?) (hs : w.heap.size ≤ w'.heap.size) : RawNotesAt w' Z' xs n T O :=
  ⟨h.1, fun j hj => by obtain ⟨a, b, c, v, d, e⟩ := h.2 j hj; exact ⟨a, b, c, v, d, e.keep hz hk hs⟩⟩
theorem RawNotesAt.snoc {w : World} {Z : Nat → Prop} {xs : List Value} {k : Nat} {T : Nat → ByteArray} {O : Nat → Option LocA} (h : RawNotesAt w Z xs k T O) {t : ByteArray} {o : Option LocA} {vl : Value} (hl : IsRaw w Z vl o) :
    RawNotesAt w Z (xs ++ [.nilIface, vl, .string t, .bool false]) (k + 1) (fun i => if i < k then T i else t) (fun i => if i < k then O i else o) := by
  have hlen := h.1
  refine ⟨by simp; omega, fun j hj => ?_⟩
  by_cases hk : j < k
  · obtain ⟨a, b, c, v, d, e⟩ := h.2 j hk
    simp only [if_pos hk]
    refine ⟨?_, ?_, ?_, v, ?_, e⟩ <;> rw [List.getElem?_append_left (by omega)] <;> assumption
  · obtain rfl : j = k := by omega
    simp only [if_neg hk]
    refine ⟨?_, ?_, ?_, vl, ?_, hl⟩ <;> rw [List.getElem?_append_right (by omega), hlen] <;> simp [Nat.add_sub_cancel_left]
theorem RawNotesAt.below {base : Nat} {w w' : World} {xs : List Value} {n : Nat} {T : Nat → ByteArray} {O : Nat → Option LocA} (h : RawNotesAt w (ZR base w) xs n T O) (hb : Below w.heap.size w w') : RawNotesAt w' (ZR base w') xs n T O :=
  h.keep (ZR.keep fun g _ hg => hb.block g hg) (fun g _ hg => hb.block g hg) hb.size
theorem IsRaw.zrBelow {base : Nat} {w w' : World} {v : Value} {o : Option LocA} (h : IsRaw w (ZR base w) v o) (hb : Below w.heap.size w w') : IsRaw w' (ZR base w') v o :=
  h.keep (ZR.keep fun g _ hg => hb.block g hg) (fun g _ hg => hb.block g hg) hb.size
theorem IsRaw.ztBelow {base t0 : Nat} {w w' : World} {v : Value} {o : Option LocA} (h : IsRaw w (Zt base t0 w) v o) (hb : Below w.heap.size w w') : IsRaw w' (Zt base t0 w') v o :=
  h.keep (Zt.keep fun g _ hg => hb.block g hg) (fun g _ hg => hb.block g hg) hb.size
theorem IsRawNotes.ztBelow {base t0 : Nat} {w w' : World} {v : Value} {n : Nat} {T : Nat → ByteArray} {O : Nat → Option LocA} (h : IsRawNotes w (Zt base t0 w) v n T O) (hb : Below w.heap.size w w') : IsRawNotes w' (Zt base t0 w') v n T O :=
  h.keep (Zt.keep fun g _ hg => hb.block g hg) (fun g _ hg => hb.block g hg) hb.size
theorem RawNotesAt.step {base b0 size k n : Nat} {w w' : World} {v : Value} {xs ys : List Value} {T : Nat → ByteArray} {O : Nat → Option LocA} {t : ByteArray} {o : Option LocA} {vl : Value} (h : RawNotesAt w (ZR base w) xs k T O) (ho : w.ownsRow b0 48 size v n ys) (hg : w.grownBy w' v.ownBlock)
    (hl : IsRaw w (ZR base w) vl o) : RawNotesAt w' (ZR base w') (xs ++ [.nilIface, vl, .string t, .bool false]) (k + 1) (fun i => if i < k then T i else t) (fun i => if i < k then O i else o) :=
  (h.snoc hl).keep (ZR.keep (ZR.grown (by decide) ho hg)) (ZR.grown (by decide) ho hg) hg.size
theorem RawNotesAt.isZt {w : World} {xs : List Value} {n base b0 : Nat} {v : Value} {T : Nat → ByteArray} {O : Nat → Option LocA} (h : RawNotesAt w (ZR base w) xs n T O) (ho : w.ownsRow base 48 4 v n xs) (hb : b0 ≤ base) (h0 : n = 0 → v = .slice none 0 0) : IsRawNotes w (Zt b0 51 w) v n T O := by
  by_cases hn : n = 0
  · exact Or.inl ⟨hn, h0 hn⟩
  · obtain ⟨_, hv | ⟨g, cap, cur, hv, hb', hg, hr⟩⟩ := ho
    · exact absurd hv.2 hn
    · refine Or.inr ⟨by omega, g, cap, hv, ⟨Nat.le_trans hb hb', cur, _, hg, by decide⟩, heap_lt hg, fun j hj => ?_⟩
      have hO : w.ownsRow base 48 4 (.slice (some ⟨g, 0, none⟩) n cap) n xs := ⟨h.1, Or.inr ⟨g, cap, cur, rfl, hb', hg, hr⟩⟩
      obtain ⟨a, b, c, vl, d, e⟩ := h.2 j hj
      have hlen := h.1
      exact ⟨(hO.cellAt _ (by omega)).trans a, (hO.cellAt _ (by omega)).trans b, (hO.cellAt _ (by omega)).trans c, vl, (hO.cellAt _ (by omega)).trans d, e.keep (ZR.zt (by decide) hb) (fun _ _ _ => rfl) (Nat.le_refl _)⟩
def RawMsgsAt (w : World) (Z : Nat → Prop) (xs : List Value) (k : Nat) (M : Nat → MsgR) : Prop :=
  xs.length = k * 8 ∧ ∀ i, i < k → xs[i * 8 + 1]? = some (.string (M i).plugin) ∧ xs[i * 8 + 2]? = some .nilIface ∧ xs[i * 8 + 4]? = some (.string (M i).text) ∧ xs[i * 8 + 5]? = some (.bool false) ∧ xs[i * 8 + 6]? = some (.int .u8 (M i).kind) ∧ xs[i * 8 + 7]? = some (.int .u8 (M i).id) ∧ 0 ≤ (M i).id ∧ (M i).n ≤ 1048576 ∧
    ∃ vn vl, xs[i * 8]? = some vn ∧ xs[i * 8 + 3]? = some vl ∧ IsRawNotes w Z vn (M i).n (M i).T (M i).O ∧ IsRaw w Z vl (M i).loc
theorem RawMsgsAt.nil (w : World) (Z : Nat → Prop) (M : Nat → MsgR) : RawMsgsAt w Z [] 0 M := ⟨rfl, fun i h => by omega⟩
theorem RawMsgsAt.keep {w w' : World} {Z Z' : Nat → Prop} {xs : List Value} {k : Nat} {M : Nat → MsgR} (h : RawMsgsAt w Z xs k M) (hz : ∀ g, Z g → Z' g) (hk : ∀ g, Z g → g < w.heap.size → w'.heap[g]? = w.heap[g]?) (hs : w.heap.size ≤ w'.heap.size) : RawMsgsAt w' Z' xs k M :=
  ⟨h.1, fun i hi => by
    obtain ⟨h1, h2, h4, h5, h6, h7, hid, hn, vn, vl, h0, h3, hno, hl⟩ := h.2 i hi
    exact ⟨h1, h2, h4, h5, h6, h7, hid, hn, vn, vl, h0, h3, hno.keep hz hk hs, hl.keep hz hk hs⟩⟩
theorem RawMsgsAt.snoc {w : World} {Z : Nat → Prop} {xs : List Value} {k : Nat} {M : Nat → MsgR} (h : RawMsgsAt w Z xs k M) {vl vn : Value} {m : MsgR} (hid : 0 ≤ m.id) (hn : m.n ≤ 1048576) (hl : IsRaw w Z vl m.loc) (hno : IsRawNotes w Z vn m.n m.T m.O) :
    RawMsgsAt w Z (xs ++ [vn, .string m.plugin, .nilIface, vl, .string m.text, .bool false, .int .u8 m.kind, .int .u8 m.id]) (k + 1) (fun i => if i < k then M i else m) := by
  have hlen := h.1
  refine ⟨by simp; omega, fun i hi => ?_⟩
  by_cases hk : i < k
  · obtain ⟨h1, h2, h4, h5, h6, h7, hid', hn', vn', vl', h0, h3, hno', hl'⟩ := h.2 i hk
    simp only [if_pos hk]
    refine ⟨?_, ?_, ?_, ?_, ?_, ?_, hid', hn', vn', vl', ?_, ?_, hno', hl'⟩ <;> rw [List.getElem?_append_left (by omega)] <;> assumption
  · obtain rfl : i = k := by omega
    simp only [if_neg hk]
    refine ⟨?_, ?_, ?_, ?_, ?_, ?_, hid, hn, vn, vl, ?_, ?_, hno, hl⟩ <;> rw [List.getElem?_append_right (by omega), hlen] <;> simp [Nat.add_sub_cancel_left]
theorem RawMsgsAt.below {base t0 : Nat} {w w' : World} {xs : List Value} {k : Nat} {M : Nat → MsgR} (h : RawMsgsAt w (Zt base t0 w) xs k M) (hb : Below w.heap.size w w') : RawMsgsAt w' (Zt base t0 w') xs k M :=
  h.keep (Zt.keep fun g _ hg => hb.block g hg) (fun g _ hg => hb.block g hg) hb.size
theorem RawMsgsAt.step {base t0 size k n : Nat} {w w' : World} {v : Value} {xs ys : List Value} {M : Nat → MsgR} {m : MsgR} {vl vn : Value} (h : RawMsgsAt w (Zt base t0 w) xs k M) (ho : w.ownsRow base t0 size v n ys) (hg : w.grownBy w' v.ownBlock)
    (hid : 0 ≤ m.id) (hn : m.n ≤ 1048576) (hl : IsRaw w (Zt base t0 w) vl m.loc) (hno : IsRawNotes w (Zt base t0 w) vn m.n m.T m.O) :
    RawMsgsAt w' (Zt base t0 w') (xs ++ [vn, .string m.plugin, .nilIface, vl, .string m.text, .bool false, .int .u8 m.kind, .int .u8 m.id]) (k + 1) (fun i => if i < k then M i else m) :=
  (h.snoc hid hn hl hno).keep (Zt.keep (Zt.grown ho hg)) (Zt.grown ho hg) hg.size
theorem RawMsgsAt.row {w : World} {xs : List Value} {n g c t base : Nat} {M : Nat → MsgR} (h : RawMsgsAt w (Zt base t w) xs n M) (ho : w.ownsRow base t 8 (.slice (some ⟨g, 0, none⟩) n c) n xs) : RawRow w (fun b => base ≤ b) (some ⟨g, 0, none⟩) n M := fun h0 => by
  have hg := ho.lt g rfl
  have hlen := h.1
  refine ⟨g, 0, rfl, hg.1, hg.2, fun i hi => ?_⟩
  obtain ⟨h1, h2, h4, h5, h6, h7, hid, hn, vn, vl, h0, h3, hno, hl⟩ := (h.keep (Z' := fun b => base ≤ b) (fun g hg => hg.1) (fun _ _ _ => rfl) (Nat.le_refl _)).2 i hi
  rw [Nat.zero_add]
  exact ⟨(ho.cellAt _ (by omega)).trans h1, (ho.cellAt _ (by omega)).trans h2, (ho.cellAt _ (by omega)).trans h4, (ho.cellAt _ (by omega)).trans h5, (ho.cellAt _ (by omega)).trans h6, (ho.cellAt _ (by omega)).trans h7, hid, hn, vn, vl, (ho.cellAt _ (by omega)).trans h0, (ho.cellAt _ (by omega)).trans h3, hno, hl⟩
theorem infoRawNote : (Try.prog.info? 48).map (fun i => (i.zero, i.size, i.bytes)) = some (some (.agg #[.nilIface, .pointer none, .string ⟨#[]⟩, .bool false]), 4, 48) := by kernel_rfl
theorem infoRawMsg : (Try.prog.info? 51).map (fun i => (i.zero, i.size, i.bytes)) = some (some (.agg #[.slice none 0 0, .string ⟨#[]⟩, .nilIface, .pointer none, .string ⟨#[]⟩, .bool false, .int .u8 0, .int .u8 0]), 8, 96) := by kernel_rfl
theorem pickBx (A : Option Addr) (n c B : Nat) (f : Nat → Int) (i : Nat) (w : World) (hrow : RowF w B A n (fun j => .int .u8 (f j))) (hn : n ≤ 1099511627776) (hi : i ≤ 1099511627776) (hw : ∀ i, (Lit.int .u8 (f i)).wf = true) :
    Calls Try.prog 11 #[.slice A n c, .int .i64 i] w fun e w' => ∃ v : Int, e = .returned (.int .u8 v) ∧ 0 ≤ v ∧ v < 256 ∧ w' = w := by
  refine (pickB A n c B f i w hrow hn hi).mono ?_
  rintro e w' ⟨rfl, rfl⟩
  have := hw i
  simp [Lit.wf, IntKind.wrap] at this
  have e1 : IntKind.u8.min = 0 := by decide
  have e2 : IntKind.u8.max = 255 := by decide
  rw [e1, e2] at this
  refine ⟨_, rfl, ?_, ?_, rfl⟩ <;> split <;> omega
theorem pickSx (A : Option Addr) (n c B : Nat) (f : Nat → ByteArray) (i : Nat) (w : World) (hrow : RowF w B A n (fun j => .string (f j))) (hn : n ≤ 1099511627776) (hi : i ≤ 1099511627776) (hw : ∀ i, i < n → (f i).size ≤ 1048576) :
    Calls Try.prog 12 #[.slice A n c, .int .i64 i] w fun e w' => ∃ t : ByteArray, e = .returned (.string t) ∧ t.size ≤ 1048576 ∧ w' = w := by
  refine (pickS A n c B f i w hrow hn hi).mono ?_
  rintro e w' ⟨rfl, rfl⟩
  refine ⟨_, rfl, ?_, rfl⟩
  split
  · exact hw i (by assumption)
  · exact Nat.zero_le _
end Go.Proofs.Ytnccjpkeaapefaa
