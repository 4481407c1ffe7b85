/- Locations: the raw one, the public one, their converter and the comparison. -/
import Derived.Test.YtnccjpkeaapefaaMa
namespace Go.Proofs.Ytnccjpkeaapefaa
open Go.RowKit
set_option linter.unusedVariables false
set_option linter.unusedSimpArgs false
structure LocA where
  A : ByteArray
  R : ByteArray
  N : ByteArray
  T : ByteArray
  S : ByteArray
  i : Int
  j : Int
  k : Int
structure PubA where
  F : ByteArray
  N : ByteArray
  i : Int
  j : Int
  k : Int
  T : ByteArray
  S : ByteArray
def pubOf (x : Int) (L : LocA) : PubA := ⟨if x = 1 then L.A else L.R, L.N, L.i, L.j, L.k, L.T, L.S⟩
structure Pub (w : World) (b : Nat) (p : PubA) : Prop where
  c0 : w.cell? ⟨b, 0, none⟩ = some (.string p.F)
  c1 : w.cell? ⟨b, 1, none⟩ = some (.string p.N)
  c2 : w.cell? ⟨b, 2, none⟩ = some (.int .i64 p.i)
  c3 : w.cell? ⟨b, 3, none⟩ = some (.int .i64 p.j)
  c4 : w.cell? ⟨b, 4, none⟩ = some (.int .i64 p.k)
  c5 : w.cell? ⟨b, 5, none⟩ = some (.string p.T)
  c6 : w.cell? ⟨b, 6, none⟩ = some (.string p.S)
  lt : b < w.heap.size
structure Raw (w : World) (b : Nat) (L : LocA) : Prop where
  c0 : w.cell? ⟨b, 0, none⟩ = some (.string L.A)
  c1 : w.cell? ⟨b, 1, none⟩ = some (.string L.R)
  c2 : w.cell? ⟨b, 2, none⟩ = some (.string L.N)
  c3 : w.cell? ⟨b, 3, none⟩ = some (.string L.T)
  c4 : w.cell? ⟨b, 4, none⟩ = some (.string L.S)
  c5 : w.cell? ⟨b, 5, none⟩ = some (.int .i64 L.i)
  c6 : w.cell? ⟨b, 6, none⟩ = some (.int .i64 L.j)
  c7 : w.cell? ⟨b, 7, none⟩ = some (.int .i64 L.k)
  lt : b < w.heap.size
theorem heap_lt {w : World} {b : Nat} {o : Obj} (h : w.heap[b]? = some o) : b < w.heap.size := (Array.getElem?_eq_some_iff.1 h).1
theorem heap_new_at {w : World} {o : Obj} {n : Nat} (h : n = w.heap.size) : (w.alloc o).heap[n]? = some o := by subst h; exact heap_alloc_new w o
theorem Pub.of {w : World} {b t : Nat} {p : PubA} (h : w.heap[b]? = some (.cells #[.string p.F, .string p.N, .int .i64 p.i, .int .i64 p.j, .int .i64 p.k, .string p.T, .string p.S] t (0, 0))) : Pub w b p := by
  refine ⟨?_, ?_, ?_, ?_, ?_, ?_, ?_, heap_lt h⟩ <;> rw [Lib.cell_of_heap h] <;> rfl
theorem Raw.of {w : World} {b t : Nat} {L : LocA} (h : w.heap[b]? = some (.cells #[.string L.A, .string L.R, .string L.N, .string L.T, .string L.S, .int .i64 L.i, .int .i64 L.j, .int .i64 L.k] t (0, 0))) : Raw w b L := by
  refine ⟨?_, ?_, ?_, ?_, ?_, ?_, ?_, ?_, heap_lt h⟩ <;> rw [Lib.cell_of_heap h] <;> rfl
theorem Pub.keep {w w' : World} {b : Nat} {p : PubA} (h : Pub w b p) (hk : w'.heap[b]? = w.heap[b]?) (hs : w.heap.size ≤ w'.heap.size) : Pub w' b p := by
  have e : ∀ i, w'.cell? ⟨b, i, none⟩ = w.cell? ⟨b, i, none⟩ := fun i => by simp only [World.cell?, hk]
  exact ⟨(e _).trans h.c0, (e _).trans h.c1, (e _).trans h.c2, (e _).trans h.c3, (e _).trans h.c4, (e _).trans h.c5, (e _).trans h.c6, Nat.lt_of_lt_of_le h.lt hs⟩
theorem Raw.keep {w w' : World} {b : Nat} {L : LocA} (h : Raw w b L) (hk : w'.heap[b]? = w.heap[b]?) (hs : w.heap.size ≤ w'.heap.size) : Raw w' b L := by
  have e : ∀ i, w'.cell? ⟨b, i, none⟩ = w.cell? ⟨b, i, none⟩ := fun i => by simp only [World.cell?, hk]
  exact ⟨(e _).trans h.c0, (e _).trans h.c1, (e _).trans h.c2, (e _).trans h.c3, (e _).trans h.c4, (e _).trans h.c5, (e _).trans h.c6, (e _).trans h.c7, Nat.lt_of_lt_of_le h.lt hs⟩
/-- A location's pointer reads as o; its block, if there is one, satisfies Z. -/
def IsLoc (w : World) (Z : Nat → Prop) (v : Value) : Option PubA → Prop
  | none => v = .pointer none
  | some p => ∃ g, v = .pointer (some ⟨g, 0, none⟩) ∧ Z g ∧ Pub w g p
def IsRaw (w : World) (Z : Nat → Prop) (v : Value) : Option LocA → Prop
  | none => v = .pointer none
  | some L => ∃ g, v = .pointer (some ⟨g, 0, none⟩) ∧ Z g ∧ Raw w g L
theorem IsLoc.keep {w w' : World} {Z Z' : Nat → Prop} {v : Value} {o : Option PubA} (h : IsLoc w Z v o) (hz : ∀ g, Z g → Z' g) (hk : ∀ g, Z g → g < w.heap.size → w'.heap[g]? = w.heap[g]?) (hs : w.heap.size ≤ w'.heap.size) : IsLoc w' Z' v o := by
  cases o with
  | none => exact h
  | some p => obtain ⟨g, rfl, hg, hp⟩ := h; exact ⟨g, rfl, hz g hg, hp.keep (hk g hg hp.lt) hs⟩
theorem IsRaw.keep {w w' : World} {Z Z' : Nat → Prop} {v : Value} {o : Option LocA} (h : IsRaw w Z v o) (hz : ∀ g, Z g → Z' g) (hk : ∀ g, Z g → g < w.heap.size → w'.heap[g]? = w.heap[g]?) (hs : w.heap.size ≤ w'.heap.size) : IsRaw w' Z' v o := by
  cases o with
  | none => exact h
  | some p => obtain ⟨g, rfl, hg, hp⟩ := h; exact ⟨g, rfl, hz g hg, hp.keep (hk g hg hp.lt) hs⟩

theorem below_drewN {B : Nat} {w w' : World} (h : Below B w w') (n : Nat) : Below B w (w'.drewN n) := ⟨h.os, h.tape, h.output, h.size, h.block⟩
theorem select (b : Nat) (L : LocA) (w : World) (h : Raw w b L) (x : Int) :
    Calls Try.prog 19 #[.pointer (some ⟨b, 0, none⟩), .int .u8 x] w fun e w' => e = .returned (.string (pubOf x L).F) ∧ w' = w := by
  have c0 := h.c0
  have c1 := h.c1
  clear h
  by_cases hx : x = 1
  · subst hx
    go_enter Try.func19, Try.ntmps19
    go_wp2_with fail
    go_ret
    exact ⟨rfl, rfl⟩
  · have hx' : (x == 1) = false := by simpa using hx
    go_enter Try.func19, Try.ntmps19
    go_wp2_with fail
    go_ret
    exact ⟨by simp [pubOf, hx], rfl⟩
theorem Raw.drew {w : World} {b : Nat} {L : LocA} (h : Raw w b L) : Raw w.drew b L := h.keep rfl (Nat.le_refl _)
set_option maxHeartbeats 4000000 in
theorem toPub (b : Nat) (L : LocA) (x : Int) (w : World) (h : Raw w b L) :
    Calls Try.prog 17 #[.pointer (some ⟨b, 0, none⟩), .int .u8 x] w fun e w' => ∃ g, e = .returned (.pointer (some ⟨g, 0, none⟩)) ∧ (w.heap.size ≤ g ∧ ∃ cur, w'.heap[g]? = some (.cells cur 61 (0, 0))) ∧ Pub w' g (pubOf x L) ∧ Below w.heap.size w w' := by
  have HH := Lib.hid h
  obtain ⟨c0, c1, c2, c3, c4, c5, c6, c7, hlt⟩ := h
  go_enter Try.func17, Try.ntmps17
  go_wp2_with fail
  go_still_tail 30, (by kernel_rfl)
  still_call (select b L w.drew HH.out.drew x)
  repeat still_step
  refine wpStill_nil ?_
  change wpList _ _ _ _ _ w.drew
  go_wp2_with fail
  go_ret
  exact ⟨_, rfl, ⟨Nat.le_refl _, _, heap_new_at (by simp)⟩, Pub.of (heap_new_at (by simp)), ((Below.refl _ _).drew).alloc (by simp) _⟩
theorem toLoc (v : Value) (Z : Nat → Prop) (o : Option LocA) (x : Int) (w : World) (h : IsRaw w Z v o) :
    Calls Try.prog 17 #[v, .int .u8 x] w fun e w' => ∃ v', e = .returned v' ∧ IsLoc w' (fun g => w.heap.size ≤ g ∧ ∃ cur, w'.heap[g]? = some (.cells cur 61 (0, 0))) v' (o.map (pubOf x)) ∧ Below w.heap.size w w' := by
  cases o with
  | none =>
    obtain rfl : v = .pointer none := h
    go_enter Try.func17, Try.ntmps17
    go_wp2_with fail
    go_ret
    exact ⟨_, rfl, rfl, Below.refl _ _⟩
  | some L =>
    obtain ⟨g, rfl, _, hr⟩ := h
    refine (toPub g L x w hr).mono ?_
    rintro e w' ⟨g', rfl, hg, hp, hb⟩
    exact ⟨_, rfl, ⟨g', rfl, hg, hp⟩, hb⟩
set_option maxHeartbeats 4000000 in
theorem sameLoc (v v' : Value) (Z Z' : Nat → Prop) (o : Option PubA) (w : World) (h : IsLoc w Z v o) (h' : IsLoc w Z' v' o) :
    Calls Try.prog 16 #[v, v'] w fun e w' => e = .returned (.bool true) ∧ ∃ n, w' = w.drewN n := by
  cases o with
  | none =>
    obtain rfl : v = .pointer none := h
    obtain rfl : v' = .pointer none := h'
    go_enter Try.func16, Try.ntmps16
    go_wp2_with fail
    all_goals go_ret
    all_goals exact ⟨rfl, 0, rfl⟩
  | some p =>
    obtain ⟨g, rfl, _, a0, a1, a2, a3, a4, a5, a6, alt⟩ := h
    obtain ⟨g', rfl, _, b0, b1, b2, b3, b4, b5, b6, blt⟩ := h'
    go_enter Try.func16, Try.ntmps16
    go_wp2_with fail
    go_quiet (fail)
    go_wp2_with fail
    all_goals go_ret
    all_goals exact ⟨rfl, _, rfl⟩
end Go.Proofs.Ytnccjpkeaapefaa
