/- ZZvalidateSupported. -/
import Derived.Test.YtfkchhmjfnkjbaaFmtVo
namespace Go.Proofs.YtfkchhmjfnkjbaaFmt
open Go.RowKit Go.Maps Go.Extern.Stop Go.Stop Go.Extern
set_option linter.unusedVariables false
set_option linter.unusedSimpArgs false
theorem Tabs.more {jf cf : Ky → Option Nat} {bj bc L L' : Nat} {w : World} (h : Tabs jf cf bj bc L w) (hL : L ≤ L') : Tabs jf cf bj bc L' w := fun w' h' => h w' fun g hg => h' g (by omega)
set_option maxRecDepth 100000 in
set_option maxHeartbeats 4000000 in
theorem validateNil (b : Nat) (w : World) (hl : LogN b 0 w) :
    Calls Tryf.prog 11 #[.agg (logC b), .map none] w fun e w' => e = .returned (.tuple #[.int .u64 0, .int .u64 0, .int .u16 0, .int .u16 0]) ∧ LogN b 0 w' ∧ Kept b w w' := by
  have HL := Lib.hid hl
  clear hl
  unfold logC pt
  have e1 : (w.alloc (Obj.cells (logC b) 41)).heap.size = w.heap.size + 1 := by simp
  have hrg := run_range_nilMap (P := Tryf.prog) (w.alloc (Obj.cells (logC b) 41)) 27 9 4 Tryf.underlying27
  have hnx : ∀ ty, (Instr.next (.pointer (some ⟨(w.alloc (Obj.cells (logC b) 41)).heap.size, 0, none⟩)) false ty).run Tryf.prog ((w.alloc (Obj.cells (logC b) 41)).alloc (.mapIter none 0 #[] 0)) = _ := fun ty => run_next_nilMap _ ty 0 0 #[]
  rw [e1] at hrg hnx
  unfold logC pt at hrg hnx
  have hK : Hid (Below w.heap.size w ((w.alloc (Obj.cells (logC b) 41)).alloc (.mapIter none 0 #[] 0))) := Lib.hid (((Below.refl _ _).alloc (Nat.le_refl _) _).alloc (by simp) _)
  clear e1
  go_enter Tryf.func11, Tryf.ntmps11
  go_wp2_with fail
  refine wp_loop_rounds 1 ?_
  rw [rounds_succ]
  go_wp2_with fail
  exact bodyPost_ret (v := .tuple #[.int .u64 0, .int .u64 0, .int .u16 0, .int .u16 0]) (by simp [results, Tryf.results11, go_sem]) rfl ⟨rfl, HL.out.below hK.out, Kept.of_below hK.out⟩
theorem sums_len {jf cf : Ky → Option Nat} {es : En} {a b c d m : Nat} (h : Sums jf cf es a b c d m) : m ≤ es.length := by
  have h1 := suS_le (NFf jf cf) (fun e => by unfold NFf; split <;> decide) es
  have h2 := h.hn
  omega
set_option maxRecDepth 100000 in
set_option maxHeartbeats 4000000 in
theorem zzval (F : Interp) (jf cf : Ky → Option Nat) (bj bc L : Nat) (hjb : ∀ k, (jf k).getD 0 < 18446744073709551616) (hcb : ∀ k, (cf k).getD 0 < 65536) (v : Option Nat) (n : Nat) (es : En) (w : World) (hL : L ≤ w.heap.size) (h2 : 2 ≤ L)
    (hm : (v = none ∧ es = []) ∨ ∃ B, v = some B ∧ w.ownsMap Tryf.prog 9 (plainElem Tryf.prog 4) B n (dm es)) (hlen : es.length ≤ 4096) (hd : Dst es) (hT : Tabs jf cf bj bc L w) (hF : F.told.answers w.tape) :
    Calls Tryf.prog 8 #[.map v] w fun e w' => ∃ a b c d m : Nat, e = .returned (.tuple #[.int .u64 a, .int .u64 b, .int .u16 c, .int .u16 d, .int .i64 m]) ∧ Sums jf cf es a b c d m ∧ Below w.heap.size w w' := by
  have HF := Lib.hid hF
  have HT := Lib.hid hT
  have HM := Lib.hid hm
  have HD := Lib.hid hd
  have HJB := Lib.hid hjb
  have HCB := Lib.hid hcb
  clear hF hT hm hd hjb hcb
  have val : Hid (∀ W : World, LogN w.heap.size 0 W → Below w.heap.size w W → Calls Tryf.prog 11 #[.agg (logC w.heap.size), .map v] W fun e w' => ∃ a b' c d m : Nat, e = .returned (.tuple #[.int .u64 a, .int .u64 b', .int .u16 c, .int .u16 d]) ∧ Sums jf cf es a b' c d m ∧ LogN w.heap.size m w' ∧ Kept w.heap.size W w') := Lib.hid fun W hl hb => by
    rcases HM.out with ⟨rfl, rfl⟩ | ⟨B, rfl, hm⟩
    · refine (validateNil _ W hl).mono ?_
      rintro e w' ⟨rfl, h1, h2⟩
      exact ⟨0, 0, 0, 0, 0, rfl, Sums.nil jf cf, h1, h2⟩
    · exact validate F jf cf bj bc HJB.out HCB.out w.heap.size B n es W hl hm.lt (by omega) (ownsMap_keep hm (hb.block B hm.lt)) hlen HD.out ((HT.out.more hL).keep hb.block) (by rw [hb.tape]; exact HF.out)
  go_enter Tryf.func8, Tryf.ntmps8
  go_wp2_with fail
  refine (newLog w).mono ?_
  rintro e w1 ⟨rfl, hl, hb, hs⟩
  have HL1 := Lib.hid (hl.below ((Below.refl _ w1).alloc (Nat.le_refl _) (Obj.cells (logC w.heap.size) 41)))
  have HB1 := Lib.hid (hb.alloc hb.size (Obj.cells (logC w.heap.size) 41))
  have hx : Hid ((w1.alloc (Obj.cells (logC w.heap.size) 41)).heap[w1.heap.size]? = some (.cells (logC w.heap.size) 41 (0, 0))) := Lib.hid (heap_alloc_new w1 _)
  clear hl hb
  unfold logC pt
  go_wp2_with fail
  refine (val.out _ HL1.out HB1.out).mono ?_
  rintro e w2 ⟨a, b, c, d, m, rfl, hs2, hl2, hk2⟩
  have hx2 := (hk2.block w1.heap.size (lt_of_heap hx.out) (Or.inr (by omega)) (fun cur e => by rw [hx.out] at e; injection e with e; injection e with _ e; exact absurd e (by decide))).trans hx.out
  have l3 := Lib.cell_of_heap hx2 3
  unfold logC pt at l3
  simp only [List.getElem?_toArray, List.getElem?_cons_zero, List.getElem?_cons_succ] at l3
  rw [hs] at l3
  have hml : m ≤ 1048576 := by have := sums_len hs2; omega
  have HS := Lib.hid hs2
  have HL2 := Lib.hid hl2
  have HB2 := Lib.hid (HB1.out.trans (hk2.below (Nat.le_refl _) HB1.out.size))
  clear hs2 hl2 hk2 hx2
  go_wp2_with (go_at_call 17; refine (doneLog w.heap.size m hml _ HL2.out).mono ?_; rintro e w3 ⟨⟨A, c3, rfl⟩, hk3⟩)
  exact bodyPost_ret (v := .tuple #[.int .u64 a, .int .u64 b, .int .u16 c, .int .u16 d, .int .i64 m]) (by simp [results, Tryf.results8, go_sem]) rfl ⟨a, b, c, d, m, rfl, HS.out, HB2.out.trans (hk3.below (Nat.le_refl _) HB2.out.size)⟩
end Go.Proofs.YtfkchhmjfnkjbaaFmt
