/- validateKeepNames on the log. -/
import Derived.Test.YtnccjpkeaapefaaFmtKd
namespace Go.Proofs.YtnccjpkeaapefaaFmt
open Go.RowKit Go.Extern.Stop Go.Stop Go.Extern
set_option linter.unusedVariables false
set_option linter.unusedSimpArgs false

@[go_sem] theorem Tryf.fmtC : FmtStop.printed? ⟨#[84, 104, 101, 32, 34, 107, 101, 101, 112, 32, 110, 97, 109, 101, 115, 34, 32, 115, 101, 116, 116, 105, 110, 103, 32, 99, 97, 110, 110, 111, 116, 32, 98, 101, 32, 117, 115, 101, 100, 32, 119, 105, 116, 104, 32, 37, 115]⟩ 1 = some [(0, 115, false)] := by kernel_rfl
@[go_sem] theorem Tryf.fmtCr (w : World) : (FmtDoors.printed ⟨#[84, 104, 101, 32, 34, 107, 101, 101, 112, 32, 110, 97, 109, 101, 115, 34, 32, 115, 101, 116, 116, 105, 110, 103, 32, 99, 97, 110, 110, 111, 116, 32, 98, 101, 32, 117, 115, 101, 100, 32, 119, 105, 116, 104, 32, 37, 115]⟩ 1).run Tryf.prog w = .ok [(0, 115, false)] w := by kernel_rfl
theorem has (x y : Int) (w : World) : Calls Tryf.prog 16 #[.int .u64 x, .int .u64 y] w fun e w' => e = .returned (.bool (bits .and .u64 x y != 0)) ∧ w' = w := by
  go_enter Tryf.func16, Tryf.ntmps16
  go_wp2
  go_ret
  exact ⟨rfl, rfl⟩
/-- The options' cells that are read. -/
structure Opt (O : Nat) (k : Bool) (u m : Nat) (s : ByteArray) (w : World) : Prop where
  lt : O < w.heap.size
  k : w.cell? ⟨O, 92, none⟩ = some (.bool k)
  u : w.cell? ⟨O, 59, none⟩ = some (.int .u64 u)
  s : w.cell? ⟨O, 10, none⟩ = some (.string s)
  m : w.cell? ⟨O, 62, none⟩ = some (.int .u64 m)
theorem Opt.below {O : Nat} {k : Bool} {u m : Nat} {s : ByteArray} {w w' : World} (h : Opt O k u m s w) (hb : Below w.heap.size w w') : Opt O k u m s w' :=
  ⟨Nat.lt_of_lt_of_le h.lt hb.size, (hb.cell h.lt).trans h.k, (hb.cell h.lt).trans h.u, (hb.cell h.lt).trans h.s, (hb.cell h.lt).trans h.m⟩
def bit27 (u : Nat) : Bool := bits .and .u64 (u : Int) 134217728 != 0

theorem valNo (b O : Nat) (k : Bool) (u m : Nat) (s : ByteArray) (hc : (k && bit27 u) = false) (w : World) (h : Opt O k u m s w) :
    Calls Tryf.prog 8 #[.agg (logC b), .pointer (some ⟨O, 0, none⟩)] w fun e w' => e = .returned (.tuple #[]) ∧ Below w.heap.size w w' := by
  obtain ⟨hO, ck, cu, cs, cm⟩ := h
  unfold logC pt
  unfold bit27 at hc
  cases k
  · go_enter Tryf.func8, Tryf.ntmps8
    go_wp2
    go_end0
    exact ⟨rfl, below_alloc (Below.refl _ _) _⟩
  · simp only [Bool.true_and] at hc
    go_enter Tryf.func8, Tryf.ntmps8
    go_wp2_with (go_at_call 16; refine (has _ _ _).mono ?_; rintro e w' ⟨rfl, rfl⟩)
    go_end0
    exact ⟨rfl, below_alloc (Below.refl _ _) _⟩

set_option maxRecDepth 8000 in
set_option maxHeartbeats 8000000 in
theorem valYes (F : Interp) (b O : Nat) (u m : Nat) (s : ByteArray) (hc : bit27 u = true) (w : World) (h : Opt O true u m s w) (hl : LogAt b 0 false w) (hm0 : w.heap[b + 2]? = some (.cells #[.slice none 0 0] 96 (0, 0))) (hF : F.told.answers w.tape) :
    Calls Tryf.prog 8 #[.agg (logC b), .pointer (some ⟨O, 0, none⟩)] w fun e w' => e = .returned (.tuple #[]) ∧ LogAt b 1 true w' ∧ Kept b w w' := by
  have HF := Lib.hid hF
  have HL := Lib.hid hl
  have HM := Lib.hid hm0
  have hbl := hl.lt
  obtain ⟨hO, ck, cu, cs, cm⟩ := h
  clear hF hl hm0
  unfold logC pt
  unfold bit27 at hc
  go_enter Tryf.func8, Tryf.ntmps8
  go_wp2_with (go_at_call 16; refine (has _ _ _).mono ?_; rintro e w' ⟨rfl, rfl⟩)
  go_region_with (go_at_call 17; refine (prettyEnv F _ _ _ (by exact HF.out)).mono ?_; rintro e w1 ⟨t, rfl, hb1⟩)
  all_goals
    have hx1 : w1.heap[w.heap.size]? = some (.cells #[.func (Fn.func 9) #[] #[.pointer (some ⟨b, 0, none⟩), .pointer (some ⟨b + 3, 0, none⟩), .pointer (some ⟨b + 4, 0, none⟩), .pointer (some ⟨b + 2, 0, none⟩)], .func (Fn.func 12) #[] #[.pointer (some ⟨b + 3, 0, none⟩), .pointer (some ⟨b + 4, 0, none⟩)], .func (Fn.func 13) #[] #[.pointer (some ⟨b + 3, 0, none⟩), .pointer (some ⟨b + 2, 0, none⟩)], .func (Fn.func 14) #[] #[.pointer (some ⟨b + 3, 0, none⟩), .pointer (some ⟨b + 2, 0, none⟩)], .int .i8 3, .map none] 34 (0, 0)) := (hb1.block w.heap.size (by simp)).trans (heap_alloc_at rfl)
    have HB1 : Hid (Below w.heap.size w w1) := Lib.hid (below_step (Below.drew (below_alloc (Below.refl _ w) _)) hb1)
    have HL1 := Lib.hid (HL.out.keep (w' := w1) HB1.out.block)
    have HM1 := Lib.hid ((HB1.out.block (b + 2) (by omega)).trans HM.out)
    have hF' := answers_open (show F.told.answers w1.tape by rw [HB1.out.tape]; exact HF.out)
    have l0 := Lib.cell_of_heap hx1 0
    have l1 := Lib.cell_of_heap hx1 1
    have l2 := Lib.cell_of_heap hx1 2
    have l3 := Lib.cell_of_heap hx1 3
    have l4 := Lib.cell_of_heap hx1 4
    have l5 := Lib.cell_of_heap hx1 5
    simp only [List.getElem?_toArray, List.getElem?_cons_zero, List.getElem?_cons_succ] at l0 l1 l2 l3 l4 l5
    have hs1 : w.heap.size < w1.heap.size := (Array.getElem?_eq_some_iff.1 hx1).1
    clear hb1 hx1
    generalize hG : w.heap.size = G at *
    go_wp2_with fail
    go_region_with (go_at_call 18; (refine (addErr b _ (HL1.out.keep (Below.block ?hB)) ((Below.block ?hB (b + 2) (by omega)).trans HM1.out) _ _ _ _ _ _).mono ?_; (case hB => repeat' (first | exact Below.refl _ _ | apply below_alloc | apply Below.drew)); rintro e w2 ⟨rfl, hl2, hk2⟩))
    all_goals go_end0
    all_goals
      subst hG
      refine ⟨rfl, hl2, (Kept.of_below (b := b) ?_).trans hk2⟩
      repeat' (first | exact HB1.out | apply below_alloc | apply Below.drew)
end Go.Proofs.YtnccjpkeaapefaaFmt
