/- Steps: an append behind which rows of notes and of messages read on. -/
import Derived.Test.YtnccjpkeaapefaaMj
import Derived.Deep.LoopGhost
import Derived.Deep.RegionWith
import Derived.Deep.RegionLaw
import Derived.Deep.AppendLies
import Derived.OwnWalk
namespace Go.Proofs.Ytnccjpkeaapefaa
open Go.RowKit
set_option linter.unusedVariables false
set_option linter.unusedSimpArgs false
theorem IsRawNotes.one {w : World} {Z : Nat → Prop} {v : Value} {n : Nat} {T : Nat → ByteArray} {O : Nat → Option LocA} (h : IsRawNotes w Z v n T O) : v.oneCell' = true := by
  rcases h with ⟨_, rfl⟩ | ⟨_, g, c, rfl, _⟩ <;> rfl
theorem IsRaw.one {w : World} {Z : Nat → Prop} {v : Value} {o : Option LocA} (h : IsRaw w Z v o) : v.oneCell' = true := by
  cases o with
  | none => obtain rfl : v = .pointer none := h; rfl
  | some L => obtain ⟨g, rfl, _⟩ := h; rfl
theorem IsLoc.one {w : World} {Z : Nat → Prop} {v : Value} {o : Option PubA} (h : IsLoc w Z v o) : v.oneCell' = true := by
  cases o with
  | none => obtain rfl : v = .pointer none := h; rfl
  | some L => obtain ⟨g, rfl, _⟩ := h; rfl
theorem IsLoc.form {w : World} {Z : Nat → Prop} {v : Value} {o : Option PubA} (h : IsLoc w Z v o) : ∃ p, v = .pointer p := by
  cases o with
  | none => exact ⟨_, h⟩
  | some L => obtain ⟨g, rfl, _⟩ := h; exact ⟨_, rfl⟩
theorem IsRawNotes.form {w : World} {Z : Nat → Prop} {v : Value} {n : Nat} {T : Nat → ByteArray} {O : Nat → Option LocA} (h : IsRawNotes w Z v n T O) : ∃ An cn, v = .slice An n cn := by
  rcases h with ⟨rfl, rfl⟩ | ⟨_, g, c, rfl, _⟩
  · exact ⟨_, _, rfl⟩
  · exact ⟨_, _, rfl⟩
/-- Blocks from base on whose rows are of another element type than t0. -/
def Zt (base t0 : Nat) (w : World) : Nat → Prop := fun b => base ≤ b ∧ ∃ cur t, w.heap[b]? = some (.cells cur t (0, 0)) ∧ t ≠ t0
theorem Zt.keep {base t0 : Nat} {w w' : World} (hk : ∀ g, Zt base t0 w g → g < w.heap.size → w'.heap[g]? = w.heap[g]?) : ∀ g, Zt base t0 w g → Zt base t0 w' g := fun g h => by
  obtain ⟨hb, cur, t, hc, ht⟩ := h
  exact ⟨hb, cur, t, (hk g ⟨hb, cur, t, hc, ht⟩ (heap_lt hc)).trans hc, ht⟩
theorem Zt.grown {base t0 size n : Nat} {w w' : World} {v : Value} {xs : List Value} (ho : w.ownsRow base t0 size v n xs) (hg : w.grownBy w' v.ownBlock) : ∀ g, Zt base t0 w g → g < w.heap.size → w'.heap[g]? = w.heap[g]? := fun g h hlt => by
  refine hg.block g hlt fun e => ?_
  obtain ⟨hb, cur, t, hc, ht⟩ := h
  rcases ho.2 with ⟨rfl, _⟩ | ⟨g', cap, cur', rfl, _, hgg, _⟩
  · simp [Value.ownBlock] at e
  · simp [Value.ownBlock] at e
    subst e
    rw [hgg] at hc
    injection hc with hc
    injection hc with _ hc
    exact ht hc.symm
theorem own_below {base t0 size n : Nat} {w w' : World} {v : Value} {xs : List Value} (h : w.ownsRow base t0 size v n xs) (hb : Below w.heap.size w w') : w'.ownsRow base t0 size v n xs :=
  h.kept (row := none) (only_of_below hb none) (by cases v.ownBlock <;> simp)
theorem below_grown {B base t0 size n : Nat} {a w w' : World} {v : Value} {xs : List Value} (hb : Below B a w) (ho : w.ownsRow base t0 size v n xs) (hg : w.grownBy w' v.ownBlock) (hB : B ≤ base) (hs : B ≤ w.heap.size) : Below B a w' :=
  hb.grown hg hs fun k hk => Nat.le_trans hB (ho.lt k hk).1
theorem below_step {w w' : World} {o : Obj} (h : Below (w.alloc o).drew.heap.size (w.alloc o).drew w') : Below w.heap.size w w' :=
  (((Below.refl _ w).alloc (Nat.le_refl _) o).drew).trans (h.mono (by simp))
theorem MsgsAt.below {base t0 : Nat} {w w' : World} {xs : List Value} {l : List MsgP} (h : MsgsAt w (Zt base t0 w) xs l) (hb : Below w.heap.size w w') : MsgsAt w' (Zt base t0 w') xs l :=
  h.keep (Zt.keep fun g _ hg => hb.block g hg) (fun g _ hg => hb.block g hg) hb.size
theorem IsLoc.ztBelow {base t0 : Nat} {w w' : World} {v : Value} {o : Option PubA} (h : IsLoc w (Zt base t0 w) v o) (hb : Below w.heap.size w w') : IsLoc w' (Zt base t0 w') v o :=
  h.keep (Zt.keep fun g _ hg => hb.block g hg) (fun g _ hg => hb.block g hg) hb.size
theorem IsNotes.ztBelow {base t0 : Nat} {w w' : World} {v : Value} {n : Nat} {T : Nat → ByteArray} {O : Nat → Option PubA} (h : IsNotes w (Zt base t0 w) v n T O) (hb : Below w.heap.size w w') : IsNotes w' (Zt base t0 w') v n T O :=
  h.keep (Zt.keep fun g _ hg => hb.block g hg) (fun g _ hg => hb.block g hg) hb.size
/-- Blocks from base on that hold a location. -/
def ZL (base : Nat) (w : World) : Nat → Prop := fun b => base ≤ b ∧ ∃ cur, w.heap[b]? = some (.cells cur 61 (0, 0))
theorem ZL.zt {base b0 t0 : Nat} {w : World} (ht : 61 ≠ t0) (hb : b0 ≤ base) : ∀ g, ZL base w g → Zt b0 t0 w g := fun g ⟨h1, cur, h2⟩ => ⟨Nat.le_trans hb h1, cur, _, h2, ht⟩
theorem ZL.keep {base : Nat} {w w' : World} (hk : ∀ g, ZL base w g → g < w.heap.size → w'.heap[g]? = w.heap[g]?) : ∀ g, ZL base w g → ZL base w' g := fun g h => by
  obtain ⟨hb, cur, hc⟩ := h
  exact ⟨hb, cur, (hk g ⟨hb, cur, hc⟩ (heap_lt hc)).trans hc⟩
theorem ZL.grown {base b0 t0 size n : Nat} {w w' : World} {v : Value} {xs : List Value} (ht : 61 ≠ t0) (ho : w.ownsRow b0 t0 size v n xs) (hg : w.grownBy w' v.ownBlock) : ∀ g, ZL base w g → g < w.heap.size → w'.heap[g]? = w.heap[g]? := fun g h hlt => by
  refine hg.block g hlt fun e => ?_
  obtain ⟨hb, cur, hc⟩ := h
  rcases ho.2 with ⟨rfl, _⟩ | ⟨g', cap, cur', rfl, _, hgg, _⟩
  · simp [Value.ownBlock] at e
  · simp [Value.ownBlock] at e
    subst e
    rw [hgg] at hc
    injection hc with hc
    injection hc with _ hc
    exact ht hc.symm
theorem NotesAt.below {base : Nat} {w w' : World} {xs : List Value} {n : Nat} {T : Nat → ByteArray} {O : Nat → Option PubA} (h : NotesAt w (ZL base w) xs n T O) (hb : Below w.heap.size w w') : NotesAt w' (ZL base w') xs n T O :=
  h.keep (ZL.keep fun g _ hg => hb.block g hg) (fun g _ hg => hb.block g hg) hb.size
theorem IsLoc.zlBelow {base : Nat} {w w' : World} {v : Value} {o : Option PubA} (h : IsLoc w (ZL base w) v o) (hb : Below w.heap.size w w') : IsLoc w' (ZL base w') v o :=
  h.keep (ZL.keep fun g _ hg => hb.block g hg) (fun g _ hg => hb.block g hg) hb.size
theorem NotesAt.step {base b0 size k n : Nat} {w w' : World} {v : Value} {xs ys : List Value} {T : Nat → ByteArray} {O : Nat → Option PubA} {vl : Value} (h : NotesAt w (ZL base w) xs k T O) (ho : w.ownsRow b0 57 size v n ys) (hg : w.grownBy w' v.ownBlock)
    (hl : IsLoc w (ZL base w) vl (O k)) : NotesAt w' (ZL base w') (xs ++ [.string (T k), vl]) (k + 1) T O :=
  (h.snoc hl).keep (ZL.keep (ZL.grown (by decide) ho hg)) (ZL.grown (by decide) ho hg) hg.size
/-- A row of notes behind a row of messages. -/
theorem NotesAt.isZt {w : World} {xs : List Value} {n base b0 : Nat} {v : Value} {T : Nat → ByteArray} {O : Nat → Option PubA} (h : NotesAt w (ZL base w) xs n T O) (ho : w.ownsRow base 57 2 v n xs) (hb : b0 ≤ base) (h0 : n = 0 → v = .slice none 0 0) : IsNotes w (Zt b0 35 w) v n T O := by
  by_cases hn : n = 0
  · exact Or.inl ⟨hn, h0 hn⟩
  · obtain ⟨_, hv | ⟨g, cap, cur, hv, hb', hg, hr⟩⟩ := ho
    · exact absurd hv.2 hn
    · refine Or.inr ⟨by omega, g, cap, hv, ⟨Nat.le_trans hb hb', cur, _, hg, by decide⟩, heap_lt hg, fun j hj => ?_⟩
      have hO : w.ownsRow base 57 2 (.slice (some ⟨g, 0, none⟩) n cap) n xs := ⟨h.1, Or.inr ⟨g, cap, cur, rfl, hb', hg, hr⟩⟩
      obtain ⟨a, vl, b, c⟩ := h.2 j hj
      have hlen := h.1
      exact ⟨(hO.cellAt _ (by omega)).trans a, vl, (hO.cellAt _ (by omega)).trans b, c.keep (ZL.zt (by decide) hb) (fun _ _ _ => rfl) (Nat.le_refl _)⟩
theorem MsgsAt.step {base t0 size n : Nat} {w w' : World} {v : Value} {xs ys : List Value} {l : List MsgP} {m : MsgP} {vl vn : Value} (h : MsgsAt w (Zt base t0 w) xs l) (ho : w.ownsRow base t0 size v n ys) (hg : w.grownBy w' v.ownBlock)
    (hn : m.n ≤ 1048576) (hl : IsLoc w (Zt base t0 w) vl m.loc) (hno : IsNotes w (Zt base t0 w) vn m.n m.T m.O) : MsgsAt w' (Zt base t0 w') (xs ++ [.string m.id, .string m.plugin, .string m.text, vl, vn, .nilIface]) (l ++ [m]) :=
  (h.snoc hn hl hno).keep (Zt.keep (Zt.grown ho hg)) (Zt.grown ho hg) hg.size
theorem infoNote : (Try.prog.info? 57).map (fun i => (i.zero, i.size, i.bytes)) = some (some (.agg #[.string ⟨#[]⟩, .pointer none]), 2, 24) := by kernel_rfl
theorem infoMsg : (Try.prog.info? 35).map (fun i => (i.zero, i.size, i.bytes)) = some (some (.agg #[.string ⟨#[]⟩, .string ⟨#[]⟩, .string ⟨#[]⟩, .pointer none, .slice none 0 0, .nilIface]), 6, 96) := by kernel_rfl
end Go.Proofs.Ytnccjpkeaapefaa
