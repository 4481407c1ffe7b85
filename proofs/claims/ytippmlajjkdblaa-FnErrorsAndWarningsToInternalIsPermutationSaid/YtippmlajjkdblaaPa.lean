/- Messages in a row: their groups of cells; Less and Swap. -/
import Derived.Test.YtippmlajjkdblaaRows
import Derived.WalkKit
import Derived.WalkLawsBesides
import Derived.WalkSpells
import Derived.Outline
import Derived.OwnWalk
import Derived.Below
import Derived.Lib.Hide
import Derived.Lib.Strings
import Derived.Deep.QuietTactic
import Derived.BigQuiet
import Derived.BigRegion
import Derived.Deep.LoopGhost
import Derived.Deep.RegionWith
import Derived.StillTailTactics
import Derived.ChangeAlike
import Derived.Laws.StructEq
namespace Go.Proofs.Ytippmlajjkdblaa
open Go.RowKit
set_option linter.unusedVariables false
set_option linter.unusedSimpArgs false
@[go_sem] theorem eqPP (a b c d : ByteArray) (w : World) : (Op.equalIn 10000 62 (.agg #[.string a, .string b]) (.agg #[.string c, .string d])).run Try.prog w = .ok (a.toList == c.toList && b.toList == d.toList) w := by
  have u3 := Try.underlying9
  have hS : Try.prog.underlying 62 = some (.struct (Try.prog.fieldsOf 62)) := by kernel_rfl
  have hp : Try.prog.stoodInHeld 62 = false := by kernel_rfl
  rw [show (10000 : Nat) = 9999 + 1 from rfl, run_equalIn_agg w 9999 62 _ _ hS hp]
  have hf : Try.prog.fieldsOf 62 = _ := rfl
  simp only [Program.fieldsOf, Try.underlying62]
  go_simp
  by_cases h1 : a.toList = c.toList <;> by_cases h2 : b.toList = d.toList <;> simp [h1, h2]
@[go_sem] theorem guardPP (op : BinOp) (x y : Operand) (xs ys : Array Value) (w : World) : (eqGuard op 62 x y (.agg xs) (.agg ys)).run Try.prog w = .ok () w := run_eqGuard_agg w op 62 x y xs ys (by kernel_rfl)
structure LocA where
  A : ByteArray
  R : ByteArray
  N : ByteArray
  T : ByteArray
  S : ByteArray
  i : Int
  j : Int
  k : Int
structure Raw (w : World) (b : Nat) (L : LocA) : Prop where
  c0 : w.cell? ⟨b, 0, none⟩ = some (.string L.A)
  c1 : w.cell? ⟨b, 1, none⟩ = some (.string L.R)
  c2 : w.cell? ⟨b, 2, none⟩ = some (.string L.N)
  c3 : w.cell? ⟨b, 3, none⟩ = some (.string L.T)
  c4 : w.cell? ⟨b, 4, none⟩ = some (.string L.S)
  c5 : w.cell? ⟨b, 5, none⟩ = some (.int .i64 L.i)
  c6 : w.cell? ⟨b, 6, none⟩ = some (.int .i64 L.j)
  c7 : w.cell? ⟨b, 7, none⟩ = some (.int .i64 L.k)
  lt : b < w.heap.size
theorem Raw.keep {w w' : World} {b : Nat} {L : LocA} (h : Raw w b L) (hk : w'.heap[b]? = w.heap[b]?) (hs : w.heap.size ≤ w'.heap.size) : Raw w' b L := by
  have e : ∀ i, w'.cell? ⟨b, i, none⟩ = w.cell? ⟨b, i, none⟩ := fun i => by simp only [World.cell?, hk]
  exact ⟨(e _).trans h.c0, (e _).trans h.c1, (e _).trans h.c2, (e _).trans h.c3, (e _).trans h.c4, (e _).trans h.c5, (e _).trans h.c6, (e _).trans h.c7, Nat.lt_of_lt_of_le h.lt hs⟩
/-- One message: eight cells; l is its location's block. -/
structure Grp where
  A : Option Addr
  n : Nat
  c : Nat
  p : ByteArray
  l : Option Nat
  t : ByteArray
  kind : Int
  id : Int
def locv : Option Nat → Value
  | none => .pointer none
  | some b => .pointer (some ⟨b, 0, none⟩)
def gcells (q : Grp) : List Value := [.slice q.A q.n q.c, .string q.p, .nilIface, locv q.l, .string q.t, .bool false, .int .u8 q.kind, .int .u8 q.id]
/-- Block g: n messages, and maybe spare cells. -/
def MRow (w : World) (g n : Nat) (Q : Nat → Grp) : Prop := ∃ cur, w.heap[g]? = some (.cells cur 38 (0, 0)) ∧ n * 8 ≤ cur.size ∧ ∀ i, i < n → ∀ j, j < 8 → cur[i * 8 + j]? = (gcells (Q i))[j]?
theorem MRow.cell {w : World} {g n : Nat} {Q : Nat → Grp} (h : MRow w g n Q) {i j : Nat} (hi : i < n) (hj : j < 8) : w.cell? ⟨g, i * 8 + j, none⟩ = (gcells (Q i))[j]? := by
  obtain ⟨cur, hg, _, hc⟩ := h
  rw [Lib.cell_of_heap hg]
  exact hc i hi j hj
theorem MRow.lt {w : World} {g n : Nat} {Q : Nat → Grp} (h : MRow w g n Q) : g < w.heap.size := by
  obtain ⟨cur, hg, _⟩ := h
  exact (Array.getElem?_eq_some_iff.1 hg).1
theorem MRow.keep {w w' : World} {g n : Nat} {Q : Nat → Grp} (h : MRow w g n Q) (hk : w'.heap[g]? = w.heap[g]?) : MRow w' g n Q := by
  obtain ⟨cur, hg, rest⟩ := h
  exact ⟨cur, hk.trans hg, rest⟩
/-- Every location can be read, and lies elsewhere. -/
def LocsOK (w : World) (g n : Nat) (Q : Nat → Grp) : Prop := ∀ i, i < n → ∀ b, (Q i).l = some b → b ≠ g ∧ ∃ L, Raw w b L
theorem LocsOK.keep {w w' : World} {g n : Nat} {Q : Nat → Grp} (h : LocsOK w g n Q) (hk : ∀ b, b ≠ g → b < w.heap.size → w'.heap[b]? = w.heap[b]?) (hs : w.heap.size ≤ w'.heap.size) : LocsOK w' g n Q := fun i hi b hb => by
  obtain ⟨h1, L, hL⟩ := h i hi b hb
  exact ⟨h1, L, hL.keep (hk b h1 hL.lt) hs⟩
/-- Some bool. -/
def IsB (e : Ending) : Prop := ∃ r : Bool, e = .returned (.bool r)
theorem below_drewN {B : Nat} {w w' : World} (h : Below B w w') (n : Nat) : Below B w (w'.drewN n) := ⟨h.os, h.tape, h.output, h.size, h.block⟩
set_option maxRecDepth 100000 in
set_option maxHeartbeats 16000000 in
theorem less (g n c i j : Nat) (Q : Nat → Grp) (w : World) (h : MRow w g n Q) (hl : LocsOK w g n Q) (hi : i < n) (hj : j < n) (hn : n ≤ 1048576) :
    Calls Try.prog 45 #[.slice (some ⟨g, 0, none⟩) n c, .int .i64 i, .int .i64 j] w fun e w' => IsB e ∧ Below w.heap.size w w' := by
  have hlt := h.lt
  have a0 := h.cell hi (j := 0) (by decide)
  have a1 := h.cell hi (j := 1) (by decide)
  have a2 := h.cell hi (j := 2) (by decide)
  have a3 := h.cell hi (j := 3) (by decide)
  have a4 := h.cell hi (j := 4) (by decide)
  have a5 := h.cell hi (j := 5) (by decide)
  have a6 := h.cell hi (j := 6) (by decide)
  have a7 := h.cell hi (j := 7) (by decide)
  have b0 := h.cell hj (j := 0) (by decide)
  have b1 := h.cell hj (j := 1) (by decide)
  have b2 := h.cell hj (j := 2) (by decide)
  have b3 := h.cell hj (j := 3) (by decide)
  have b4 := h.cell hj (j := 4) (by decide)
  have b5 := h.cell hj (j := 5) (by decide)
  have b6 := h.cell hj (j := 6) (by decide)
  have b7 := h.cell hj (j := 7) (by decide)
  have ha := hl i hi
  have hb := hl j hj
  clear h hl
  generalize Q i = q at *
  generalize Q j = q' at *
  simp only [gcells, List.getElem?_cons_zero, List.getElem?_cons_succ, Nat.add_zero] at a0 a1 a2 a3 a4 a5 a6 a7 b0 b1 b2 b3 b4 b5 b6 b7
  obtain ⟨A, m, cc, p, l, t, kind, id⟩ := q
  obtain ⟨A', m', cc', p', l', t', kind', id'⟩ := q'
  have bel : ∀ o o' : Obj, Below w.heap.size w ((w.alloc o).alloc o') := fun o o' => ((Below.refl _ _).alloc (Nat.le_refl _) o).alloc (by simp) o'
  cases l with
  | none =>
    simp only [locv] at a3
    cases l' with
    | none =>
      simp only [locv] at b3
      go_enter Try.func45, Try.ntmps45
      go_wp2_with fail
      go_ret
      all_goals refine ⟨⟨_, rfl⟩, ?_⟩
      all_goals repeat' (first | exact bel _ _ | apply below_drewN | apply Below.drew)
    | some b =>
      simp only [locv] at b3
      go_enter Try.func45, Try.ntmps45
      go_wp2_with fail
      go_ret
      all_goals refine ⟨⟨_, rfl⟩, ?_⟩
      all_goals repeat' (first | exact bel _ _ | apply below_drewN | apply Below.drew)
  | some a =>
    simp only [locv] at a3
    cases l' with
    | none =>
      simp only [locv] at b3
      go_enter Try.func45, Try.ntmps45
      go_wp2_with fail
      go_ret
      all_goals refine ⟨⟨_, rfl⟩, ?_⟩
      all_goals repeat' (first | exact bel _ _ | apply below_drewN | apply Below.drew)
    | some b =>
      simp only [locv] at b3
      obtain ⟨_, L, d0, d1, d2, d3, d4, d5, d6, d7, dlt⟩ := ha a rfl
      obtain ⟨_, L', e0, e1, e2, e3, e4, e5, e6, e7, elt⟩ := hb b rfl
      clear ha hb
      by_cases h1 : L.A.toList = L'.A.toList
      · by_cases h2 : L.R.toList = L'.R.toList
        · go_enter Try.func45, Try.ntmps45
          go_wp2_with fail
          go_quiet (fail)
          go_wp2_with fail
          go_quiet (fail)
          go_wp2_with fail
          all_goals try (go_quiet (fail); go_wp2_with fail)
          all_goals try (go_quiet (fail); go_wp2_with fail)
          all_goals try (go_quiet (fail); go_wp2_with fail)
          all_goals go_ret
          all_goals refine ⟨⟨_, rfl⟩, ?_⟩
          all_goals repeat' (first | exact bel _ _ | apply below_drewN | apply Below.drew)
        · cases hA : Op.bytesLess L'.A.toList L'.A.toList
          · cases hR : Op.bytesLess L.R.toList L'.R.toList
            · go_enter Try.func45, Try.ntmps45
              go_wp2_with fail
              go_quiet (fail)
              go_wp2_with fail
              go_quiet (fail)
              go_wp2_with fail
              all_goals go_ret
              all_goals refine ⟨⟨_, rfl⟩, ?_⟩
              all_goals repeat' (first | exact bel _ _ | apply below_drewN | apply Below.drew)
            · go_enter Try.func45, Try.ntmps45
              go_wp2_with fail
              go_quiet (fail)
              go_wp2_with fail
              go_quiet (fail)
              go_wp2_with fail
              all_goals go_ret
              all_goals refine ⟨⟨_, rfl⟩, ?_⟩
              all_goals repeat' (first | exact bel _ _ | apply below_drewN | apply Below.drew)
          · cases hR : Op.bytesLess L.R.toList L'.R.toList
            · go_enter Try.func45, Try.ntmps45
              go_wp2_with fail
              go_quiet (fail)
              go_wp2_with fail
              go_quiet (fail)
              go_wp2_with fail
              all_goals go_ret
              all_goals refine ⟨⟨_, rfl⟩, ?_⟩
              all_goals repeat' (first | exact bel _ _ | apply below_drewN | apply Below.drew)
            · go_enter Try.func45, Try.ntmps45
              go_wp2_with fail
              go_quiet (fail)
              go_wp2_with fail
              go_quiet (fail)
              go_wp2_with fail
              all_goals go_ret
              all_goals refine ⟨⟨_, rfl⟩, ?_⟩
              all_goals repeat' (first | exact bel _ _ | apply below_drewN | apply Below.drew)
      · cases hA : Op.bytesLess L.A.toList L'.A.toList
        · cases hR : Op.bytesLess L.R.toList L'.R.toList
          · go_enter Try.func45, Try.ntmps45
            go_wp2_with fail
            go_quiet (fail)
            go_wp2_with fail
            go_quiet (fail)
            go_wp2_with fail
            all_goals go_ret
            all_goals refine ⟨⟨_, rfl⟩, ?_⟩
            all_goals repeat' (first | exact bel _ _ | apply below_drewN | apply Below.drew)
          · go_enter Try.func45, Try.ntmps45
            go_wp2_with fail
            go_quiet (fail)
            go_wp2_with fail
            go_quiet (fail)
            go_wp2_with fail
            all_goals go_ret
            all_goals refine ⟨⟨_, rfl⟩, ?_⟩
            all_goals repeat' (first | exact bel _ _ | apply below_drewN | apply Below.drew)
        · cases hR : Op.bytesLess L.R.toList L'.R.toList
          · go_enter Try.func45, Try.ntmps45
            go_wp2_with fail
            go_quiet (fail)
            go_wp2_with fail
            go_quiet (fail)
            go_wp2_with fail
            all_goals go_ret
            all_goals refine ⟨⟨_, rfl⟩, ?_⟩
            all_goals repeat' (first | exact bel _ _ | apply below_drewN | apply Below.drew)
          · go_enter Try.func45, Try.ntmps45
            go_wp2_with fail
            go_quiet (fail)
            go_wp2_with fail
            go_quiet (fail)
            go_wp2_with fail
            all_goals go_ret
            all_goals refine ⟨⟨_, rfl⟩, ?_⟩
            all_goals repeat' (first | exact bel _ _ | apply below_drewN | apply Below.drew)
end Go.Proofs.Ytippmlajjkdblaa
