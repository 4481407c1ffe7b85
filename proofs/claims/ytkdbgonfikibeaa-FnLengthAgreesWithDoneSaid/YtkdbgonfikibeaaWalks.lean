/- The walks of the Joiner's methods (printed by genW.py). -/
import Derived.Test.YtkdbgonfikibeaaRows
import Derived.Test.YtkdbgonfikibeaaMath
import Derived.WalkKit
import Derived.WalkLawsBesides
import Derived.WalkSpells
import Derived.Deep.LoopGhost
import Derived.Outline
import Derived.OwnWalk
import Derived.Deep.RegionLaw
import Derived.Deep.AppendLies
import Derived.RegionTactic
import Derived.StillTailTactics
import Derived.Deep.QuietTactic
import Derived.BigQuiet
import Derived.Lib.Strings
import Derived.Laws.IdiomStrings
namespace Go.Proofs.Ytkdbgonfikibeaa
open Go.RowKit
set_option linter.unusedVariables false
set_option linter.unusedSimpArgs false

theorem Try.info44 : (Try.prog.info? 44).map (fun i => (i.zero, i.size, i.bytes)) = some (some (.agg #[.string ⟨#[]⟩, .int .u32 0]), 2, 24) := by kernel_rfl
theorem Try.info42 : (Try.prog.info? 42).map (fun i => (i.zero, i.size, i.bytes)) = some (some (.agg #[.slice none 0 0, .int .u32 0]), 2, 32) := by kernel_rfl
theorem Try.info5 : (Try.prog.info? 5).map (fun i => (i.zero, i.size, i.bytes)) = some (some (.int .u8 0), 1, 1) := by kernel_rfl

/-- The four cells of a Joiner. -/
def jf (V1 V2 : Value) (L : Nat) (b : Int) : Nat → Value
  | 0 => V1
  | 1 => V2
  | 2 => .int .u32 L
  | _ => .int .u8 b
/-- A converted piece's bytes, in a block of bytes. -/
def BR (w : World) (A : Option Addr) (s : ByteArray) : Prop :=
  0 < s.size → ∃ g cs fr, A = some ⟨g, 0, none⟩ ∧ w.heap[g]? = some (.cells cs 5 fr) ∧ ∀ q, q < s.size → cs[q]? = some (.int .u8 (bt s q))
def sF (f : Nat → ByteArray) : Nat → Value := fun i => .string (f i)
def bF (f : Nat → ByteArray) (Ad : Nat → Option Addr) (cp : Nat → Nat) : Nat → Value := fun i => .slice (Ad i) (f i).size (cp i)
def oF (f : Nat → ByteArray) : Nat → Value := fun i => .int .u32 (tot f i)
structure JOK (w : World) (jb base : Nat) (f : Nat → ByteArray) (κ : Nat → Bool) (k : Nat) (A1 : Option Addr) (c1 : Nat) (A2 : Option Addr) (c2 : Nat) (b : Int) (Ad : Nat → Option Addr) (cp : Nat → Nat) : Prop where
  lt : jb < base
  le : base ≤ w.heap.size
  row : w.rowIs jb 30 4 (jf (.slice A1 (sel κ false k).length c1) (.slice A2 (sel κ true k).length c2) (tot f k) b)
  own1 : w.ownsRow base 44 2 (.slice A1 (sel κ false k).length c1) (sel κ false k).length (pairs (sF f) (oF f) (sel κ false k))
  own2 : w.ownsRow base 42 2 (.slice A2 (sel κ true k).length c2) (sel κ true k).length (pairs (bF f Ad cp) (oF f) (sel κ true k))
  byt : ∀ i, i < k → κ i = true → BR w (Ad i) (f i)
def J (w : World) (jb base : Nat) (f : Nat → ByteArray) (κ : Nat → Bool) (k : Nat) : Prop := ∃ A1 c1 A2 c2 b Ad cp, JOK w jb base f κ k A1 c1 A2 c2 b Ad cp

theorem own_type {w : World} {base e size n : Nat} {v : Value} {xs : List Value} (h : w.ownsRow base e size v n xs) {g : Nat} (hg : v.ownBlock = some g) : ∃ cur, w.heap[g]? = some (.cells cur e (0, 0)) := by
  rcases h.2 with ⟨rfl, _⟩ | ⟨g', cap, cur, rfl, _, hh, _⟩
  · simp [Value.ownBlock] at hg
  · have : g' = g := by simpa [Value.ownBlock] using hg
    subst this
    exact ⟨cur, hh⟩
theorem own_ne {w : World} {base e size n : Nat} {v : Value} {xs : List Value} (h : w.ownsRow base e size v n xs) {g t : Nat} {cs : Array Value} {fr : Nat × Nat} (hg : w.heap[g]? = some (.cells cs t fr)) (hne : t ≠ e) : some g ≠ v.ownBlock := by
  intro hv
  obtain ⟨cur, hc⟩ := own_type h hv.symm
  rw [hg] at hc
  injection hc with hc
  injection hc with _ ht
  exact hne ht
theorem blk_lt {w : World} {g : Nat} {o : Obj} (h : w.heap[g]? = some o) : g < w.heap.size := by
  rcases Nat.lt_or_ge g w.heap.size with hlt | hge
  · exact hlt
  · rw [Array.getElem?_eq_none hge] at h; cases h
theorem BR.keep {w w' : World} {A : Option Addr} {s : ByteArray} (h : BR w A s) (hk : ∀ (g : Nat) (cs : Array Value) (fr : Nat × Nat), w.heap[g]? = some (.cells cs 5 fr) → w'.heap[g]? = w.heap[g]?) : BR w' A s := fun hs => by
  obtain ⟨g, cs, fr, e, hg, hc⟩ := h hs
  exact ⟨g, cs, fr, e, (hk g cs fr hg).trans hg, hc⟩
theorem JOK.keep {w w' : World} {jb base : Nat} {f : Nat → ByteArray} {κ : Nat → Bool} {k : Nat} {A1 : Option Addr} {c1 : Nat} {A2 : Option Addr} {c2 : Nat} {b : Int} {Ad : Nat → Option Addr} {cp : Nat → Nat}
    (h : JOK w jb base f κ k A1 c1 A2 c2 b Ad cp) (hb : ∀ g, g < w.heap.size → w'.heap[g]? = w.heap[g]?) (hs : w.heap.size ≤ w'.heap.size) : JOK w' jb base f κ k A1 c1 A2 c2 b Ad cp := by
  have own : ∀ {e : Nat} {v : Value} {n : Nat} {xs : List Value}, w.ownsRow base e 2 v n xs → w'.ownsRow base e 2 v n xs := by
    intro e v n xs ho
    refine ⟨ho.1, ?_⟩
    rcases ho.2 with h0 | ⟨g, cap, cur, e1, e2, e3, r⟩
    · exact .inl h0
    · exact .inr ⟨g, cap, cur, e1, e2, by rw [hb g (blk_lt e3)]; exact e3, r⟩
  exact ⟨h.lt, Nat.le_trans h.le hs, h.row.of_block (hb jb h.row.lt), own h.own1, own h.own2, fun i hi hk => (h.byt i hi hk).keep fun g cs fr hg => hb g (blk_lt hg)⟩
theorem J.keep {w w' : World} {jb base : Nat} {f : Nat → ByteArray} {κ : Nat → Bool} {k : Nat} (h : J w jb base f κ k) (hb : ∀ g, g < w.heap.size → w'.heap[g]? = w.heap[g]?) (hs : w.heap.size ≤ w'.heap.size) : J w' jb base f κ k := by
  obtain ⟨A1, c1, A2, c2, b, Ad, cp, h⟩ := h
  exact ⟨A1, c1, A2, c2, b, Ad, cp, h.keep hb hs⟩
theorem J.below {w w' : World} {jb base : Nat} {f : Nat → ByteArray} {κ : Nat → Bool} {k : Nat} (h : J w jb base f κ k) (hb : Below w.heap.size w w') : J w' jb base f κ k := h.keep hb.block hb.size
theorem JOK.last {w : World} {jb base : Nat} {f : Nat → ByteArray} {κ : Nat → Bool} {k : Nat} {A1 : Option Addr} {c1 : Nat} {A2 : Option Addr} {c2 : Nat} {b : Int} {Ad : Nat → Option Addr} {cp : Nat → Nat}
    (h : JOK w jb base f κ k A1 c1 A2 c2 b Ad cp) (b' : Int) : JOK (w.setCell ⟨jb, 3, none⟩ (.int .u8 b')) jb base f κ k A1 c1 A2 c2 b' Ad cp where
  lt := h.lt
  le := by simpa [World.setCell] using h.le
  row := (h.row.set 3 _).congr fun i hi => by
    rcases (show i = 0 ∨ i = 1 ∨ i = 2 ∨ i = 3 by omega) with rfl | rfl | rfl | rfl <;> simp [jf]
  own1 := ownsRow_setCell_below h.own1 (a := ⟨jb, 3, none⟩) h.lt _
  own2 := ownsRow_setCell_below h.own2 (a := ⟨jb, 3, none⟩) h.lt _
  byt := fun i hi hk => (h.byt i hi hk).keep fun g cs fr hg => by
    refine Below.heap_setCell _ _ _ _ (fun e => ?_)
    obtain ⟨c, hc, _⟩ := h.row
    have e' : g = jb := e
    subst e'
    rw [hg] at hc
    injection hc with hc
    injection hc with _ ht
    cases ht
theorem BR.last {w : World} {jb base : Nat} {f : Nat → ByteArray} {κ : Nat → Bool} {k : Nat} {A1 : Option Addr} {c1 : Nat} {A2 : Option Addr} {c2 : Nat} {b : Int} {Ad : Nat → Option Addr} {cp : Nat → Nat} {A : Option Addr} {s : ByteArray}
    (hb : BR w A s) (h : JOK w jb base f κ k A1 c1 A2 c2 b Ad cp) (v : Value) : BR (w.setCell ⟨jb, 3, none⟩ v) A s := hb.keep fun g cs fr hg => by
    refine Below.heap_setCell _ _ _ _ (fun e => ?_)
    obtain ⟨c, hc, _⟩ := h.row
    have e' : g = jb := e
    subst e'
    rw [hg] at hc
    injection hc with hc
    injection hc with _ ht
    cases ht
theorem bt_row (s : ByteArray) (c q : Nat) (hq : q < s.size) : (bytesRow s c)[q]? = some (.int .u8 (bt s q)) := by
  unfold bytesRow bt
  have hs : q < s.data.size := hq
  rw [Array.getElem?_append_left (by simpa using hs)]
  rw [Array.getElem?_map, Array.getElem?_eq_getElem hs]
  simp [List.getD_eq_getElem?_getD, Array.getElem?_eq_getElem hs]
theorem fin_str {w w1 : World} {jb base : Nat} {f : Nat → ByteArray} {κ : Nat → Bool} {k : Nat} {A1 : Option Addr} {c1 : Nat} {A2 : Option Addr} {c2 : Nat} {b : Int} {Ad : Nat → Option Addr} {cp : Nat → Nat}
    (h : JOK w jb base f κ k A1 c1 A2 c2 b Ad cp) (hκ : κ k = false) (X : Obj) {A' : Option Addr} {c' : Nat}
    (hown : w1.ownsRow base 44 2 (.slice A' ((sel κ false k).length + 1) c') ((sel κ false k).length + 1) (pairs (sF f) (oF f) (sel κ false k) ++ [.string (f k), .int .u32 (tot f k)]))
    (hg : (w.alloc X).drew.grownBy w1 (Value.slice A1 (sel κ false k).length c1).ownBlock) :
    J ((w1.setCell ⟨jb, 0, none⟩ (.slice A' ((sel κ false k).length + 1) c')).setCell ⟨jb, 2, none⟩ (.int .u32 (tot f k + (f k).size : Nat))) jb base f κ (k + 1) ∧
      Below jb w ((w1.setCell ⟨jb, 0, none⟩ (.slice A' ((sel κ false k).length + 1) c')).setCell ⟨jb, 2, none⟩ (.int .u32 (tot f k + (f k).size : Nat))) := by
  have hjl := h.row.lt
  have hlt := h.lt
  have hle := h.le
  have hsz : w.heap.size + 1 ≤ w1.heap.size := by have := hg.size; simpa using this
  have blk : ∀ (g : Nat) (cs : Array Value) (t : Nat) (fr : Nat × Nat), t ≠ 44 → w.heap[g]? = some (.cells cs t fr) → w1.heap[g]? = w.heap[g]? := fun g cs t fr ht hh => by
    rw [hg.block g (by have := blk_lt hh; simp; omega) (own_ne h.own1 hh ht)]
    exact Below.heap_alloc _ _ _ (blk_lt hh)
  obtain ⟨cj, hcj, hcs, hcc⟩ := h.row
  have hrow : w1.rowIs jb 30 4 (jf (.slice A1 (sel κ false k).length c1) (.slice A2 (sel κ true k).length c2) (tot f k) b) := ⟨cj, (blk jb cj 30 (0, 0) (by decide) hcj).trans hcj, hcs, hcc⟩
  have hnj : ∀ (g : Nat) (cs : Array Value) (t : Nat) (fr : Nat × Nat), t ≠ 30 → w.heap[g]? = some (.cells cs t fr) → g ≠ jb := fun g cs t fr ht hh e => by
    subst e
    rw [hh] at hcj
    injection hcj with hcj
    injection hcj with _ h2
    exact ht h2
  have hother : w1.ownsRow base 42 2 (.slice A2 (sel κ true k).length c2) (sel κ true k).length (pairs (bF f Ad cp) (oF f) (sel κ true k)) := by
    have ho := h.own2
    refine ⟨ho.1, ?_⟩
    rcases ho.2 with h0 | ⟨g, cap, cur, e1, e2, e3, r⟩
    · exact .inl h0
    · exact .inr ⟨g, cap, cur, e1, e2, by rw [blk g cur 42 (0, 0) (by decide) e3]; exact e3, r⟩
  have hsel : sel κ false (k + 1) = sel κ false k ++ [k] := by rw [sel_succ, if_pos hκ]
  have hsel' : sel κ true (k + 1) = sel κ true k := by rw [sel_succ, if_neg (by rw [hκ]; decide), List.append_nil]
  have hlen : (sel κ false (k + 1)).length = (sel κ false k).length + 1 := by rw [hsel]; simp
  refine ⟨⟨A', c', A2, c2, b, Ad, cp, ?_⟩, ?_⟩
  · refine ⟨hlt, by simp [World.setCell]; omega, ?_, ?_, ?_, ?_⟩
    · refine ((hrow.set 0 _).set 2 _).congr fun i hi => ?_
      rw [hlen, hsel']
      rcases (show i = 0 ∨ i = 1 ∨ i = 2 ∨ i = 3 by omega) with rfl | rfl | rfl | rfl <;> simp [jf, tot]
    · rw [hlen, hsel, pairs_append]
      exact ownsRow_setCell_below (ownsRow_setCell_below hown (a := ⟨jb, 0, none⟩) hlt _) (a := ⟨jb, 2, none⟩) hlt _
    · rw [hsel']
      exact ownsRow_setCell_below (ownsRow_setCell_below hother (a := ⟨jb, 0, none⟩) hlt _) (a := ⟨jb, 2, none⟩) hlt _
    · intro i hi hki
      have hik : i < k := by
        rcases Nat.lt_or_ge i k with h1 | h1
        · exact h1
        · obtain rfl : i = k := by omega
          rw [hκ] at hki; cases hki
      refine (h.byt i hik hki).keep fun g cs fr hh => ?_
      rw [Below.heap_setCell _ _ _ _ (hnj g cs 5 fr (by decide) hh), Below.heap_setCell _ _ _ _ (hnj g cs 5 fr (by decide) hh)]
      exact blk g cs 5 fr (by decide) hh
  · refine Below.setCell (p := ⟨jb, 2, none⟩) (Below.setCell (p := ⟨jb, 0, none⟩) ?_ (Nat.le_refl jb) _) (Nat.le_refl jb) _
    refine ⟨hg.os, hg.tape, hg.output, by omega, fun g hgl => ?_⟩
    rw [hg.block g (by simp; omega) (fun e => by have := (h.own1.lt g e.symm).1; omega)]
    exact Below.heap_alloc _ _ _ (by omega)
theorem fin_byt {w w1 : World} {jb base : Nat} {f : Nat → ByteArray} {κ : Nat → Bool} {k : Nat} {A1 : Option Addr} {c1 : Nat} {A2 : Option Addr} {c2 : Nat} {b : Int} {Ad : Nat → Option Addr} {cp : Nat → Nat}
    (h : JOK w jb base f κ k A1 c1 A2 c2 b Ad cp) (hκ : κ k = true) {Ak : Option Addr} {ck : Nat} (hbr : BR w Ak (f k)) (X : Obj) {A' : Option Addr} {c' : Nat}
    (hown : w1.ownsRow base 42 2 (.slice A' ((sel κ true k).length + 1) c') ((sel κ true k).length + 1) (pairs (bF f Ad cp) (oF f) (sel κ true k) ++ [.slice Ak (f k).size ck, .int .u32 (tot f k)]))
    (hg : (w.alloc X).drew.grownBy w1 (Value.slice A2 (sel κ true k).length c2).ownBlock) :
    J ((w1.setCell ⟨jb, 1, none⟩ (.slice A' ((sel κ true k).length + 1) c')).setCell ⟨jb, 2, none⟩ (.int .u32 (tot f k + (f k).size : Nat))) jb base f κ (k + 1) ∧
      Below jb w ((w1.setCell ⟨jb, 1, none⟩ (.slice A' ((sel κ true k).length + 1) c')).setCell ⟨jb, 2, none⟩ (.int .u32 (tot f k + (f k).size : Nat))) := by
  have hjl := h.row.lt
  have hlt := h.lt
  have hle := h.le
  have hsz : w.heap.size + 1 ≤ w1.heap.size := by have := hg.size; simpa using this
  have blk : ∀ (g : Nat) (cs : Array Value) (t : Nat) (fr : Nat × Nat), t ≠ 42 → w.heap[g]? = some (.cells cs t fr) → w1.heap[g]? = w.heap[g]? := fun g cs t fr ht hh => by
    rw [hg.block g (by have := blk_lt hh; simp; omega) (own_ne h.own2 hh ht)]
    exact Below.heap_alloc _ _ _ (blk_lt hh)
  obtain ⟨cj, hcj, hcs, hcc⟩ := h.row
  have hrow : w1.rowIs jb 30 4 (jf (.slice A1 (sel κ false k).length c1) (.slice A2 (sel κ true k).length c2) (tot f k) b) := ⟨cj, (blk jb cj 30 (0, 0) (by decide) hcj).trans hcj, hcs, hcc⟩
  have hnj : ∀ (g : Nat) (cs : Array Value) (t : Nat) (fr : Nat × Nat), t ≠ 30 → w.heap[g]? = some (.cells cs t fr) → g ≠ jb := fun g cs t fr ht hh e => by
    subst e
    rw [hh] at hcj
    injection hcj with hcj
    injection hcj with _ h2
    exact ht h2
  have hother : w1.ownsRow base 44 2 (.slice A1 (sel κ false k).length c1) (sel κ false k).length (pairs (sF f) (oF f) (sel κ false k)) := by
    have ho := h.own1
    refine ⟨ho.1, ?_⟩
    rcases ho.2 with h0 | ⟨g, cap, cur, e1, e2, e3, r⟩
    · exact .inl h0
    · exact .inr ⟨g, cap, cur, e1, e2, by rw [blk g cur 44 (0, 0) (by decide) e3]; exact e3, r⟩
  have hsel : sel κ true (k + 1) = sel κ true k ++ [k] := by rw [sel_succ, if_pos hκ]
  have hsel' : sel κ false (k + 1) = sel κ false k := by rw [sel_succ, if_neg (by rw [hκ]; decide), List.append_nil]
  have hlen : (sel κ true (k + 1)).length = (sel κ true k).length + 1 := by rw [hsel]; simp
  refine ⟨⟨A1, c1, A', c', b, (fun i => if i = k then Ak else Ad i), (fun i => if i = k then ck else cp i), ?_⟩, ?_⟩
  · refine ⟨hlt, by simp [World.setCell]; omega, ?_, ?_, ?_, ?_⟩
    · refine ((hrow.set 1 _).set 2 _).congr fun i hi => ?_
      rw [hlen, hsel']
      rcases (show i = 0 ∨ i = 1 ∨ i = 2 ∨ i = 3 by omega) with rfl | rfl | rfl | rfl <;> simp [jf, tot]
    · rw [hsel']
      exact ownsRow_setCell_below (ownsRow_setCell_below hother (a := ⟨jb, 1, none⟩) hlt _) (a := ⟨jb, 2, none⟩) hlt _
    · have hp : pairs (bF f (fun i => if i = k then Ak else Ad i) (fun i => if i = k then ck else cp i)) (oF f) (sel κ true (k + 1)) = pairs (bF f Ad cp) (oF f) (sel κ true k) ++ [.slice Ak (f k).size ck, .int .u32 (tot f k)] := by
        rw [hsel, pairs_append]
        congr 1
        · refine pairs_congr fun i hi => ?_
          have hik : i ≠ k := by have := (mem_sel.1 hi).1; omega
          simp [bF, hik]
        · simp [pairs, bF, oF]
      rw [hlen, hp]
      exact ownsRow_setCell_below (ownsRow_setCell_below hown (a := ⟨jb, 1, none⟩) hlt _) (a := ⟨jb, 2, none⟩) hlt _
    · intro i hi hki
      have kp : ∀ (g : Nat) (cs : Array Value) (fr : Nat × Nat), w.heap[g]? = some (.cells cs 5 fr) → ((w1.setCell ⟨jb, 1, none⟩ (.slice A' ((sel κ true k).length + 1) c')).setCell ⟨jb, 2, none⟩ (.int .u32 (tot f k + (f k).size : Nat))).heap[g]? = w.heap[g]? := fun g cs fr hh => by
        rw [Below.heap_setCell _ _ _ _ (hnj g cs 5 fr (by decide) hh), Below.heap_setCell _ _ _ _ (hnj g cs 5 fr (by decide) hh)]
        exact blk g cs 5 fr (by decide) hh
      by_cases e : i = k
      · subst e
        simp only [if_pos]
        exact hbr.keep kp
      · simp only [if_neg e]
        exact (h.byt i (by omega) hki).keep kp
  · refine Below.setCell (p := ⟨jb, 2, none⟩) (Below.setCell (p := ⟨jb, 1, none⟩) ?_ (Nat.le_refl jb) _) (Nat.le_refl jb) _
    refine ⟨hg.os, hg.tape, hg.output, by omega, fun g hgl => ?_⟩
    rw [hg.block g (by simp; omega) (fun e => by have := (h.own2.lt g e.symm).1; omega)]
    exact Below.heap_alloc _ _ _ (by omega)
theorem row_after0 {w w1 : World} {jb base : Nat} {f : Nat → ByteArray} {κ : Nat → Bool} {k : Nat} {A1 : Option Addr} {c1 : Nat} {A2 : Option Addr} {c2 : Nat} {b : Int} {Ad : Nat → Option Addr} {cp : Nat → Nat} {X : Obj}
    (h : JOK w jb base f κ k A1 c1 A2 c2 b Ad cp) (hgr : (w.alloc X).drew.grownBy w1 (Value.slice A1 (sel κ false k).length c1).ownBlock) : w1.rowIs jb 30 4 (jf (.slice A1 (sel κ false k).length c1) (.slice A2 (sel κ true k).length c2) (tot f k) b) := by
  have hlt := h.lt
  refine h.row.of_block ?_
  rw [hgr.block jb (by have := h.row.lt; simp; omega) (fun e => by have := (h.own1.lt jb e.symm).1; omega)]
  exact Below.heap_alloc _ _ _ h.row.lt
theorem row_after1 {w w1 : World} {jb base : Nat} {f : Nat → ByteArray} {κ : Nat → Bool} {k : Nat} {A1 : Option Addr} {c1 : Nat} {A2 : Option Addr} {c2 : Nat} {b : Int} {Ad : Nat → Option Addr} {cp : Nat → Nat} {X : Obj}
    (h : JOK w jb base f κ k A1 c1 A2 c2 b Ad cp) (hgr : (w.alloc X).drew.grownBy w1 (Value.slice A2 (sel κ true k).length c2).ownBlock) : w1.rowIs jb 30 4 (jf (.slice A1 (sel κ false k).length c1) (.slice A2 (sel κ true k).length c2) (tot f k) b) := by
  have hlt := h.lt
  refine h.row.of_block ?_
  rw [hgr.block jb (by have := h.row.lt; simp; omega) (fun e => by have := (h.own2.lt jb e.symm).1; omega)]
  exact Below.heap_alloc _ _ _ h.row.lt

set_option maxHeartbeats 1000000 in
theorem addString (jb base k : Nat) (f : Nat → ByteArray) (κ : Nat → Bool) (hκ : κ k = false) (hbig : tot f k + (f k).size ≤ 4294967295) (hk : k ≤ 1048576) (w : World) (hJ : J w jb base f κ k) :
    Calls Try.prog 15 #[.pointer (some ⟨jb, 0, none⟩), .string (f k)] w fun e w' => e = .returned (.tuple #[]) ∧ J w' jb base f κ (k + 1) ∧ Below jb w w' := by
  obtain ⟨A1, c1, A2, c2, b, Ad, cp, hJ⟩ := hJ
  obtain ⟨i0, hi, hz0, hz1, hz2⟩ := info_parts Try.info44
  have HI := Lib.hid hi
  have HZ0 := Lib.hid hz0
  have HZ1 := Lib.hid hz1
  have HZ2 := Lib.hid hz2
  have HK := Lib.hid hκ
  clear hi hz0 hz1 hz2 hκ
  have hl := sel_length_le κ false k
  have p3 := hJ.row.cell (i := 3) (by omega)
  have z3 := hJ.row.frozen 3
  simp only [jf] at p3
  have HJ := Lib.hid hJ
  clear hJ

  by_cases hpos : 0 < (f k).size
  · skip
    go_enter Try.func15, Try.ntmps15
    go_wp2_with fail
    generalize hx : ((f k)[(f k).size - 1].toNat : Int) = x
    have HJ' := Lib.hid (HJ.out.last x)
    have HBw := Lib.hid ((Below.refl jb w).setCell (p := ⟨jb, 3, none⟩) (Nat.le_refl jb) (.int .u8 x))
    have HX := Lib.hid hx
    skip
    clear hx HJ
    generalize w.setCell ⟨jb, 3, none⟩ (.int .u8 x) = w0 at *
    obtain ⟨HJ, hJJ⟩ : ∃ h : Hid (JOK w0 jb base f κ k A1 c1 A2 c2 x Ad cp), True := ⟨HJ', trivial⟩
    obtain ⟨b0, hb0⟩ : ∃ b0, b0 = x := ⟨_, rfl⟩
    subst hb0
    clear p3 z3 hJJ HJ'
    have q0 := HJ.out.row.cell (i := 0) (by omega)
    have q2 := HJ.out.row.cell (i := 2) (by omega)
    have y0 := HJ.out.row.frozen 0
    have y2 := HJ.out.row.frozen 2
    simp only [jf] at q0 q2
    have hjl := HJ.out.row.lt
    go_region_law ((refine step_append_lies _ (by rfl) _ _ _ (by rfl) base 44 i0 _ 2 24 Try.underlying26 HI.out HZ0.out HZ1.out HZ2.out rfl (by omega) (.slice A1 (sel κ false k).length c1) (sel κ false k).length (pairs (sF f) (oF f) (sel κ false k)) (by rfl) (by exact (HJ.out.own1.alloc _).drew) ⟨w0.heap.size, 0, none⟩ 1 1 [.string (f k), .int .u32 (tot f k)] (by rfl) (by rfl) (World.news_of_block (cs := #[.string (f k), .int .u32 (tot f k)]) (t := 44) (fr := (0, 0)) (heap_alloc_new w0 _)) (by simp [Value.oneCell']) (by omega) (by unfold maxLen; omega) (by omega) (by have := HJ.out.le; simp; omega) (w0.heap.size + 1) (by simp) ?_; intro g cap w1 hown hgr hat hlt1; have r1 := row_after0 HJ.out hgr; have q0' := r1.cell (i := 0) (by omega); have q2' := r1.cell (i := 2) (by omega); have y0' := r1.frozen 0; have y2' := r1.frozen 2; simp only [jf] at q0' q2'; have HOWN := Lib.hid hown; have HGR := Lib.hid hgr; clear hown hgr r1 hat hlt1))
    all_goals
      have HF := Lib.hid (fin_str HJ.out HK.out _ HOWN.out HGR.out)
      clear q0 q2 y0 y2
      go_wp2_with fail
      go_end0
      have hf := HF.out
      rw [Int.natCast_add] at hf
      exact ⟨rfl, hf.1, HBw.out.trans hf.2⟩
  · have HBw := Lib.hid (Below.refl jb w)
    go_enter Try.func15, Try.ntmps15
    go_wp2_with fail
    obtain ⟨w0, hw0⟩ : ∃ w0, w0 = w := ⟨_, rfl⟩
    obtain ⟨b0, hb0⟩ : ∃ b0, b0 = b := ⟨_, rfl⟩
    subst hb0
    have HBw' : Hid (Below jb w w0) := Lib.hid (by rw [hw0]; exact HBw.out)
    have HJ' : Hid (JOK w0 jb base f κ k A1 c1 A2 c2 b0 Ad cp) := Lib.hid (by rw [hw0]; exact HJ.out)
    skip
    rw [← hw0]
    clear HBw HJ p3 z3
    obtain ⟨HBw, _⟩ : ∃ h : Hid (Below jb w w0), True := ⟨HBw', trivial⟩
    obtain ⟨HJ, _⟩ : ∃ h : Hid (JOK w0 jb base f κ k A1 c1 A2 c2 b0 Ad cp), True := ⟨HJ', trivial⟩
    have HW0 := Lib.hid hw0
    clear hw0 HBw' HJ'
    have q0 := HJ.out.row.cell (i := 0) (by omega)
    have q2 := HJ.out.row.cell (i := 2) (by omega)
    have y0 := HJ.out.row.frozen 0
    have y2 := HJ.out.row.frozen 2
    simp only [jf] at q0 q2
    have hjl := HJ.out.row.lt
    go_region_law ((refine step_append_lies _ (by rfl) _ _ _ (by rfl) base 44 i0 _ 2 24 Try.underlying26 HI.out HZ0.out HZ1.out HZ2.out rfl (by omega) (.slice A1 (sel κ false k).length c1) (sel κ false k).length (pairs (sF f) (oF f) (sel κ false k)) (by rfl) (by exact (HJ.out.own1.alloc _).drew) ⟨w0.heap.size, 0, none⟩ 1 1 [.string (f k), .int .u32 (tot f k)] (by rfl) (by rfl) (World.news_of_block (cs := #[.string (f k), .int .u32 (tot f k)]) (t := 44) (fr := (0, 0)) (heap_alloc_new w0 _)) (by simp [Value.oneCell']) (by omega) (by unfold maxLen; omega) (by omega) (by have := HJ.out.le; simp; omega) (w0.heap.size + 1) (by simp) ?_; intro g cap w1 hown hgr hat hlt1; have r1 := row_after0 HJ.out hgr; have q0' := r1.cell (i := 0) (by omega); have q2' := r1.cell (i := 2) (by omega); have y0' := r1.frozen 0; have y2' := r1.frozen 2; simp only [jf] at q0' q2'; have HOWN := Lib.hid hown; have HGR := Lib.hid hgr; clear hown hgr r1 hat hlt1))
    all_goals
      have HF := Lib.hid (fin_str HJ.out HK.out _ HOWN.out HGR.out)
      clear q0 q2 y0 y2
      go_wp2_with fail
      go_end0
      have hf := HF.out
      rw [Int.natCast_add] at hf
      exact ⟨rfl, hf.1, HBw.out.trans hf.2⟩

set_option maxHeartbeats 1000000 in
theorem addBytes (jb base k : Nat) (f : Nat → ByteArray) (κ : Nat → Bool) (Ak : Option Addr) (ck : Nat) (hκ : κ k = true) (hbig : tot f k + (f k).size ≤ 4294967295) (hk : k ≤ 1048576) (w : World) (hJ : J w jb base f κ k) (hbr : BR w Ak (f k)) :
    Calls Try.prog 14 #[.pointer (some ⟨jb, 0, none⟩), .slice Ak (f k).size ck] w fun e w' => e = .returned (.tuple #[]) ∧ J w' jb base f κ (k + 1) ∧ Below jb w w' := by
  obtain ⟨A1, c1, A2, c2, b, Ad, cp, hJ⟩ := hJ
  obtain ⟨i0, hi, hz0, hz1, hz2⟩ := info_parts Try.info42
  have HI := Lib.hid hi
  have HZ0 := Lib.hid hz0
  have HZ1 := Lib.hid hz1
  have HZ2 := Lib.hid hz2
  have HK := Lib.hid hκ
  clear hi hz0 hz1 hz2 hκ
  have hl := sel_length_le κ true k
  have p3 := hJ.row.cell (i := 3) (by omega)
  have z3 := hJ.row.frozen 3
  simp only [jf] at p3
  have HJ := Lib.hid hJ
  clear hJ
  have HBR0 := Lib.hid hbr
  clear hbr
  by_cases hpos : 0 < (f k).size
  · obtain ⟨g0, cs0, fr0, hAk, hh0, hc0⟩ := HBR0.out hpos
    subst hAk
    have hload : w.cell? ⟨g0, (f k).size - 1, none⟩ = some (.int .u8 (bt (f k) ((f k).size - 1))) := by rw [cell_of_row w g0 _ cs0 5 fr0 hh0]; exact hc0 _ (by omega)
    clear hh0 hc0
    go_enter Try.func14, Try.ntmps14
    go_wp2_with fail
    generalize hx : bt (f k) ((f k).size - 1) = x
    have HJ' := Lib.hid (HJ.out.last x)
    have HBw := Lib.hid ((Below.refl jb w).setCell (p := ⟨jb, 3, none⟩) (Nat.le_refl jb) (.int .u8 x))
    have HX := Lib.hid hx
    have HBR := Lib.hid (HBR0.out.last HJ.out (.int .u8 x))
    clear HBR0 hload
    clear hx HJ
    generalize w.setCell ⟨jb, 3, none⟩ (.int .u8 x) = w0 at *
    obtain ⟨HJ, hJJ⟩ : ∃ h : Hid (JOK w0 jb base f κ k A1 c1 A2 c2 x Ad cp), True := ⟨HJ', trivial⟩
    obtain ⟨b0, hb0⟩ : ∃ b0, b0 = x := ⟨_, rfl⟩
    subst hb0
    clear p3 z3 hJJ HJ'
    have q0 := HJ.out.row.cell (i := 1) (by omega)
    have q2 := HJ.out.row.cell (i := 2) (by omega)
    have y0 := HJ.out.row.frozen 1
    have y2 := HJ.out.row.frozen 2
    simp only [jf] at q0 q2
    have hjl := HJ.out.row.lt
    go_region_law ((refine step_append_lies _ (by rfl) _ _ _ (by rfl) base 42 i0 _ 2 32 Try.underlying27 HI.out HZ0.out HZ1.out HZ2.out rfl (by omega) (.slice A2 (sel κ true k).length c2) (sel κ true k).length (pairs (bF f Ad cp) (oF f) (sel κ true k)) (by rfl) (by exact (HJ.out.own2.alloc _).drew) ⟨w0.heap.size, 0, none⟩ 1 1 [.slice (some ⟨g0, 0, none⟩) (f k).size ck, .int .u32 (tot f k)] (by rfl) (by rfl) (World.news_of_block (cs := #[.slice (some ⟨g0, 0, none⟩) (f k).size ck, .int .u32 (tot f k)]) (t := 42) (fr := (0, 0)) (heap_alloc_new w0 _)) (by simp [Value.oneCell']) (by omega) (by unfold maxLen; omega) (by omega) (by have := HJ.out.le; simp; omega) (w0.heap.size + 1) (by simp) ?_; intro g cap w1 hown hgr hat hlt1; have r1 := row_after1 HJ.out hgr; have q0' := r1.cell (i := 1) (by omega); have q2' := r1.cell (i := 2) (by omega); have y0' := r1.frozen 1; have y2' := r1.frozen 2; simp only [jf] at q0' q2'; have HOWN := Lib.hid hown; have HGR := Lib.hid hgr; clear hown hgr r1 hat hlt1))
    all_goals
      have HF := Lib.hid (fin_byt HJ.out HK.out HBR.out _ HOWN.out HGR.out)
      clear q0 q2 y0 y2
      go_wp2_with fail
      go_end0
      have hf := HF.out
      rw [Int.natCast_add] at hf
      exact ⟨rfl, hf.1, HBw.out.trans hf.2⟩
  · have HBw := Lib.hid (Below.refl jb w)
    go_enter Try.func14, Try.ntmps14
    go_wp2_with fail
    obtain ⟨w0, hw0⟩ : ∃ w0, w0 = w := ⟨_, rfl⟩
    obtain ⟨b0, hb0⟩ : ∃ b0, b0 = b := ⟨_, rfl⟩
    subst hb0
    have HBw' : Hid (Below jb w w0) := Lib.hid (by rw [hw0]; exact HBw.out)
    have HJ' : Hid (JOK w0 jb base f κ k A1 c1 A2 c2 b0 Ad cp) := Lib.hid (by rw [hw0]; exact HJ.out)
    have HBR : Hid (BR w0 Ak (f k)) := Lib.hid (by rw [hw0]; exact HBR0.out)
    clear HBR0
    rw [← hw0]
    clear HBw HJ p3 z3
    obtain ⟨HBw, _⟩ : ∃ h : Hid (Below jb w w0), True := ⟨HBw', trivial⟩
    obtain ⟨HJ, _⟩ : ∃ h : Hid (JOK w0 jb base f κ k A1 c1 A2 c2 b0 Ad cp), True := ⟨HJ', trivial⟩
    have HW0 := Lib.hid hw0
    clear hw0 HBw' HJ'
    have q0 := HJ.out.row.cell (i := 1) (by omega)
    have q2 := HJ.out.row.cell (i := 2) (by omega)
    have y0 := HJ.out.row.frozen 1
    have y2 := HJ.out.row.frozen 2
    simp only [jf] at q0 q2
    have hjl := HJ.out.row.lt
    go_region_law ((refine step_append_lies _ (by rfl) _ _ _ (by rfl) base 42 i0 _ 2 32 Try.underlying27 HI.out HZ0.out HZ1.out HZ2.out rfl (by omega) (.slice A2 (sel κ true k).length c2) (sel κ true k).length (pairs (bF f Ad cp) (oF f) (sel κ true k)) (by rfl) (by exact (HJ.out.own2.alloc _).drew) ⟨w0.heap.size, 0, none⟩ 1 1 [.slice Ak (f k).size ck, .int .u32 (tot f k)] (by rfl) (by rfl) (World.news_of_block (cs := #[.slice Ak (f k).size ck, .int .u32 (tot f k)]) (t := 42) (fr := (0, 0)) (heap_alloc_new w0 _)) (by simp [Value.oneCell']) (by omega) (by unfold maxLen; omega) (by omega) (by have := HJ.out.le; simp; omega) (w0.heap.size + 1) (by simp) ?_; intro g cap w1 hown hgr hat hlt1; have r1 := row_after1 HJ.out hgr; have q0' := r1.cell (i := 1) (by omega); have q2' := r1.cell (i := 2) (by omega); have y0' := r1.frozen 1; have y2' := r1.frozen 2; simp only [jf] at q0' q2'; have HOWN := Lib.hid hown; have HGR := Lib.hid hgr; clear hown hgr r1 hat hlt1))
    all_goals
      have HF := Lib.hid (fin_byt HJ.out HK.out HBR.out _ HOWN.out HGR.out)
      clear q0 q2 y0 y2
      go_wp2_with fail
      go_end0
      have hf := HF.out
      rw [Int.natCast_add] at hf
      exact ⟨rfl, hf.1, HBw.out.trans hf.2⟩
end Go.Proofs.Ytkdbgonfikibeaa
