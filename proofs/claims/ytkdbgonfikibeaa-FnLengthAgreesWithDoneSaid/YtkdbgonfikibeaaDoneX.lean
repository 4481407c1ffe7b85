/- The walk of the Joiner's Done (printed by genD.py). -/
import Derived.Test.YtkdbgonfikibeaaMore
import Derived.IntWalk
namespace Go.Proofs.Ytkdbgonfikibeaa
open Go.RowKit
set_option linter.unusedVariables false
set_option linter.unusedSimpArgs false

/-- The cells of a row of pairs. -/
theorem own_pair {w : World} {base e c t i : Nat} {A : Option Addr} {F G : Nat → Value} {l : List Nat} (h : w.ownsRow base e 2 (.slice A l.length c) l.length (pairs F G l)) (ht : l[t]? = some i) :
    ∃ g, A = some ⟨g, 0, none⟩ ∧ base ≤ g ∧ w.cell? ⟨g, t * 2, none⟩ = some (F i) ∧ w.cell? ⟨g, t * 2 + 1, none⟩ = some (G i) := by
  have hl : t < l.length := (List.getElem?_eq_some_iff.1 ht).1
  rcases h.2 with ⟨_, h0⟩ | ⟨g, cap, cur, hv, hb, _⟩
  · omega
  · injection hv with hA _ _
    subst hA
    have hp := pairs_at F G l t i ht
    have h1 := h.cells (g := g) rfl (t * 2) _ hp.1
    have h2 := h.cells (g := g) rfl (t * 2 + 1) _ hp.2
    rw [add_flat, Nat.zero_add] at h1 h2
    exact ⟨g, rfl, hb, h1, h2⟩

theorem wpList_copy_str {P : Program} {w : World} {ops : Array Oper} {rest : List Oper} {o : Oper} {a : Act} {Q : Exit → Act → World → Prop} (hgd : o.guard = none) (d x : Operand) (dT sT : TypeId)
    (ho : o.op = .call { callee := .builtin .copy, args := #[d, x], argTypes := #[dT, sT] }) (elem : TypeId) (hu : P.underlying dT = some (.slice elem)) (hsz : (P.info? elem).map (·.size) = some 1)
    (g off dLen dCap : Nat) (s : ByteArray) (hd : a.eval d = .slice (some ⟨g, off, none⟩) dLen dCap) (hs : a.eval x = .string s) (cur : Array Value) (t : TypeId) (hg : w.heap[g]? = some (.cells cur t (0, 0))) (hle : s.size ≤ dLen) (hfit : off + s.size ≤ cur.size)
    (h : wpList P ops Q rest (a.put o.dst (goInt s.size)) (w.setRow g (cur.toList.take off ++ Lib.byteCells s.data.toList ++ cur.toList.drop (off + s.size)).toArray)) : wpList P ops Q (o :: rest) a w := by
  refine wpList_plain hgd fun K hK => ?_
  have hrun := Lib.run_copy_row_string (P := P) w dT sT o.type elem g off dLen dCap s cur t hu hsz hg hle hfit
  unfold Oper.wp
  simp only [execOp, ho, resolve, invoke, builtin, List.map_toArray, List.map_cons, List.map_nil, hd, hs, Sem.run_bind, Sem.run_pure, hrun, Result.andThen]
  exact hK _ _ h
theorem wpList_copy_str0 {P : Program} {w : World} {ops : Array Oper} {rest : List Oper} {o : Oper} {a : Act} {Q : Exit → Act → World → Prop} (hgd : o.guard = none) (d x : Operand) (dT sT : TypeId)
    (ho : o.op = .call { callee := .builtin .copy, args := #[d, x], argTypes := #[dT, sT] }) (elem : TypeId) (hu : P.underlying dT = some (.slice elem)) (hsz : ((P.info? elem).map (·.size)).isSome = true)
    (dp : Option Addr) (dLen dCap : Nat) (s : ByteArray) (hd : a.eval d = .slice dp dLen dCap) (hs : a.eval x = .string s) (h0 : s.size = 0)
    (h : wpList P ops Q rest (a.put o.dst (goInt 0)) w) : wpList P ops Q (o :: rest) a w := by
  refine wpList_plain hgd fun K hK => ?_
  have hrun := Lib.run_copy_empty_string (P := P) w dT sT o.type elem dp dLen dCap s hu hsz h0
  unfold Oper.wp
  simp only [execOp, ho, resolve, invoke, builtin, List.map_toArray, List.map_cons, List.map_nil, hd, hs, Sem.run_bind, Sem.run_pure, hrun, Result.andThen]
  exact hK _ _ h
theorem BufOk.empty {f : Nat → ByteArray} {D : List Nat} {buf : Nat → Int} (h : BufOk f D buf) {i : Nat} (h0 : (f i).size = 0) : BufOk f (D ++ [i]) buf := by
  intro j hj q hq
  by_cases e : j = i
  · subst e; omega
  · exact h j (by simpa [e] using hj) q hq
theorem take_step {l : List Nat} {t i : Nat} (h : l[t]? = some i) : l.take (t + 1) = l.take t ++ [i] := by
  obtain ⟨hl, he⟩ := List.getElem?_eq_some_iff.1 h
  rw [List.take_succ_eq_append_getElem hl, he]
/-- A buffer in the making. -/
structure Bf (w wr : World) (g N : Nat) (f : Nat → ByteArray) (D : List Nat) : Prop where
  bel : Below w.heap.size w wr
  le : w.heap.size ≤ g
  buf : ∃ buf : Nat → Int, wr.rowIs g 5 N (fun p => .int .u8 (buf p)) ∧ BufOk f D buf
theorem Bf.put {w wr : World} {g N : Nat} {f : Nat → ByteArray} {D : List Nat} (h : Bf w wr g N f D) (X : Obj) {i : Nat} (hfit : tot f i + (f i).size ≤ N) {cur : Array Value} (hc : wr.heap[g]? = some (.cells cur 5 (0, 0))) :
    Bf w (((wr.alloc X).drew).setRow g (cur.toList.take (tot f i) ++ Lib.byteCells (f i).data.toList ++ cur.toList.drop (tot f i + (f i).size)).toArray) g N f (D ++ [i]) := by
  obtain ⟨buf, hr, hb⟩ := h.buf
  have hr2 := hr
  obtain ⟨c', hc', hs, hcc⟩ := hr
  rw [hc] at hc'
  injection hc' with hc'
  injection hc' with e1
  subst e1
  have hheap : ((wr.alloc X).drew).heap[g]? = some (.cells cur 5 (0, 0)) := (Below.heap_alloc wr X g (blk_lt hc)).trans hc
  refine ⟨?_, h.le, over buf (tot f i) (f i), ?_, hb.step i⟩
  · have h1 : Below w.heap.size w (wr.alloc X).drew := (h.bel.alloc h.bel.size X).drew
    exact below_setRow h1 h.le _
  · exact rowIs_over (w := wr) hs hcc hfit (setRow_heap _ g _ _ 5 _ hheap)
theorem Bf.skip {w wr : World} {g N : Nat} {f : Nat → ByteArray} {D : List Nat} (h : Bf w wr g N f D) (X : Obj) {i : Nat} (h0 : (f i).size = 0) : Bf w (wr.alloc X).drew g N f (D ++ [i]) := by
  obtain ⟨buf, hr, hb⟩ := h.buf
  exact ⟨(h.bel.alloc h.bel.size X).drew, h.le, buf, (hr.alloc X).drew, hb.empty h0⟩
theorem Bf.assoc {w wr : World} {g N : Nat} {f : Nat → ByteArray} {a b c : List Nat} (h : Bf w wr g N f ((a ++ b) ++ c)) : Bf w wr g N f (a ++ (b ++ c)) := by rw [← List.append_assoc]; exact h
theorem Bf.putA {w wr : World} {g N : Nat} {f : Nat → ByteArray} {D : List Nat} (h : Bf w wr g N f D) (X : Obj) {i : Nat} (hfit : tot f i + (f i).size ≤ N) {cur : Array Value} (hc : wr.heap[g]? = some (.cells cur 5 (0, 0))) :
    Bf w (((wr.alloc X).drew).setRow g (cur.toList.take (tot f i) ++ (Lib.byteCells (f i).data.toList ++ cur.toList.drop (tot f i + (f i).size))).toArray) g N f (D ++ [i]) := by
  have := h.put X hfit hc
  rw [List.append_assoc] at this
  exact this
theorem Bf.putB {w wr : World} {g N : Nat} {f : Nat → ByteArray} {D : List Nat} (h : Bf w wr g N f D) (X : Obj) {i : Nat} (hfit : tot f i + (f i).size ≤ N) {cur : Array Value} (hc : wr.heap[g]? = some (.cells cur 5 (0, 0))) :
    Bf w (((wr.alloc X).drew).setRow g (cur.toList.take (tot f i) ++ (Lib.byteCells (f i).data.toList ++ cur.toList.drop (tot f i + (Lib.byteCells (f i).data.toList).length))).toArray) g N f (D ++ [i]) := by
  have hl : (Lib.byteCells (f i).data.toList).length = (f i).size := by simp [Lib.byteCells]
  have := h.put X hfit hc
  rw [List.append_assoc] at this
  rw [hl]
  exact this
theorem src_cells {w wr : World} {X : Obj} {gs : Nat} {cs : Array Value} {fr : Nat × Nat} {s : ByteArray} (hb : Below w.heap.size w wr) (hsh : w.heap[gs]? = some (.cells cs 5 fr)) (hsc : ∀ q, q < s.size → cs[q]? = some (.int .u8 (bt s q))) :
    ∀ j v, (Lib.byteCells s.data.toList)[j]? = some v → ((wr.alloc X).drew).cell? ((⟨gs, 0, none⟩ : Addr).add j) = some v := by
  intro j v hv
  have hj : j < s.size := by
    have := (List.getElem?_eq_some_iff.1 hv).1
    simpa [Lib.byteCells] using this
  have hl := blk_lt hsh
  have h1 : (wr.alloc X).drew.heap[gs]? = some (.cells cs 5 fr) := ((Below.heap_alloc wr X gs (by have := hb.size; omega)).trans (hb.block gs hl)).trans hsh
  rw [add_flat, Nat.zero_add, cell_of_row _ gs _ cs 5 fr h1, hsc j hj]
  simp only [Lib.byteCells, List.getElem?_map] at hv
  have hs : j < s.data.toList.length := by simpa using hj
  rw [List.getElem?_eq_getElem hs] at hv
  simp only [Option.map_some, Option.some.injEq] at hv
  rw [← hv]
  simp [bt, List.getD_eq_getElem?_getD, List.getElem?_eq_getElem hs]
def DoneAt (f : Nat → ByteArray) (n : Nat) (w : World) (e : Ending) (w' : World) : Prop :=
  ∃ A c, e = .returned (.slice A (tot f n) c) ∧ RowF w' w'.heap.size A (tot f n) (fun p => .int .u8 (C f n p)) ∧ Below w.heap.size w w'

set_option maxHeartbeats 2000000 in
theorem done (jb base n : Nat) (f : Nat → ByteArray) (κ : Nat → Bool) (hn : n ≤ 1048577) (ht : tot f n ≤ 2097152) (w : World) (hJ : J w jb base f κ n) : Calls Try.prog 9 #[.pointer (some ⟨jb, 0, none⟩)] w (DoneAt f n w) := by
  obtain ⟨A1, c1, A2, c2, b, Ad, cp, hJ⟩ := hJ
  have hl1 := sel_length_le κ false n
  have hl2 := sel_length_le κ true n
  have q0 := hJ.row.cell (i := 0) (by omega)
  have q1 := hJ.row.cell (i := 1) (by omega)
  have q2 := hJ.row.cell (i := 2) (by omega)
  simp only [jf] at q0 q1 q2
  by_cases hal : (sel κ false n).length = 0 ∧ (sel κ true n).length = 1
  · obtain ⟨e1, e2⟩ := hal
    obtain ⟨rfl, hsel⟩ := alone e1 e2
    obtain ⟨g, hA, hbg, p1, p2⟩ := own_pair (t := 0) (i := 0) hJ.own2 (by rw [hsel]; rfl)
    subst hA
    rw [e1] at q0
    rw [e2] at q1
    have hbr := hJ.byt 0 (by omega) (by have : (0 : Nat) ∈ sel κ true 1 := by rw [hsel]; simp
                                        exact (mem_sel.1 this).2)
    simp only [bF, oF, tot] at p1 p2
    simp at p1 p2
    have HBR := Lib.hid hbr
    clear hbr e1 e2 hsel hl1 hl2 hJ ht hn
    go_enter Try.func9, Try.ntmps9
    go_wp2_with fail
    go_ret
    refine ⟨Ad 0, cp 0, ?_, ?_, Below.refl _ _⟩
    · simp [tot]
    · intro hp
      have hp' : 0 < (f 0).size := by simpa [tot] using hp
      obtain ⟨g, cs, fr, e, hh, hc⟩ := HBR.out hp'
      refine ⟨g, 0, e, blk_lt hh, fun j hj => ?_⟩
      have hj' : j < (f 0).size := by simpa [tot] using hj
      rw [Nat.zero_add, cell_of_row w g _ cs 5 fr hh, hc j hj']
      have := C_at f (n := 1) (i := 0) (q := j) (by omega) hj'
      simp [tot] at this
      show _ = some (Value.int .u8 (C f 1 j))
      rw [this]
  · have HJ := Lib.hid hJ
    have hmk := run_make_at (P := Try.prog) 34 5 (.int .u8 0) 1 Try.underlying34 Try.info5 rfl .u32 .u32 (tot f n) (tot f n : Int) rfl (by omega) (by omega)
    have HBF : Hid (Bf w (w.alloc (.cells (madeCells #[.int .u8 0] (tot f n)) 5)) w.heap.size (tot f n) f []) :=
      Lib.hid ⟨(Below.refl _ _).alloc (Nat.le_refl _) _, Nat.le_refl _, fun _ => 0, by exact World.rowIs_made w (Value.int .u8 0) (tot f n) 5, fun i hi => by simp at hi⟩
    have hcs : (((sel κ false n).length : Int) == 0) = false ∨ ((((sel κ false n).length : Int) == 0) = true ∧ (((sel κ true n).length : Int) == 1) = false) := by
      by_cases h1 : (sel κ false n).length = 0
      · right
        refine ⟨by simp [h1], ?_⟩
        have h2 : ¬ (sel κ true n).length = 1 := fun h2 => hal ⟨h1, h2⟩
        rw [beq_eq_false_iff_ne]; omega
      · left
        rw [beq_eq_false_iff_ne]; omega
    have hjl := hJ.row.lt
    clear hJ hal
    rcases hcs with hb1 | ⟨hb1, hb2⟩
    all_goals
      go_enter Try.func9, Try.ntmps9
      go_wp2_with fail
      clear hmk
      go_loopg [49] (sel κ false n).length (fun gh s wr => ∃ t : Nat, t ≤ (sel κ false n).length ∧ gh = (sel κ false n).length - t ∧ s = .int .i64 t ∧ Bf w wr w.heap.size (tot f n) f ((sel κ false n).take t))
      case atStart => exact ⟨0, Nat.zero_le _, rfl, rfl, by first | exact HBF.out | (simpa using HBF.out)⟩
      case round =>
        obtain ⟨t, ht', rfl, rfl, hB⟩ := hrel
        clear HBF
        by_cases hlt : t < (sel κ false n).length
        · obtain ⟨i, hti⟩ : ∃ i, (sel κ false n)[t]? = some i := ⟨_, List.getElem?_eq_getElem hlt⟩
          have hin : i < n ∧ κ i = false := mem_sel.1 (List.mem_of_getElem? hti)
          obtain ⟨g, hA, hbg, p1, p2⟩ := own_pair HJ.out.own1 hti
          have HTI := Lib.hid hti
          clear hti
          subst hA
          have hgl : g < w.heap.size := block_lt_of_cell p1
          have p1' := (hB.bel.cell (p := ⟨g, t * 2, none⟩) hgl).trans p1
          have p2' := (hB.bel.cell (p := ⟨g, t * 2 + 1, none⟩) hgl).trans p2
          simp only [sF, oF] at p1' p2'
          clear p1 p2
          have hti2 := tot_at f hin.1
          obtain ⟨buf, hrw, hbo⟩ := hB.buf
          obtain ⟨cur, hcur, hcs, hcc⟩ := hrw
          have HB := Lib.hid hB
          have HCUR := Lib.hid hcur
          have HIN := Lib.hid hin
          have hcs' : cur.size ≤ tot f n := by omega
          have hcs'' : tot f n ≤ cur.size := by omega
          clear hB hcur hbo hcc hcs hin
          have hlt' : (t : Int) < ((sel κ false n).length : Int) := by omega
          by_cases hz : 0 < (f i).size
          · have hoff : ¬ tot f n = tot f i := by omega
            have hoff2 : (tot f i : Int) ≤ (tot f n : Int) := by omega
            go_wp2_with fail
            have d1 : (wr.alloc (.cells #[.string (f i), .int .u32 (tot f i)] 44)).cell? ⟨wr.heap.size, 0, none⟩ = some (.string (f i)) := by simp [go_sem]
            have d2 : (wr.alloc (.cells #[.string (f i), .int .u32 (tot f i)] 44)).cell? ⟨wr.heap.size, 1, none⟩ = some (.int .u32 (tot f i)) := by simp [go_sem]
            generalize hW : wr.alloc (.cells #[.string (f i), .int .u32 (tot f i)] 44) = w5 at d1 d2 ⊢
            have HW := Lib.hid hW
            clear hW
            go_still_tail 6, (by kernel_rfl)
            change wpList _ _ _ _ _ w5.drew
            refine wpList_copy_str rfl (.tmp 56) (.tmp 58) 34 9 rfl 5 Try.underlying34 (by kernel_rfl) w.heap.size (tot f i) _ _ (f i) rfl rfl cur 5 (by rw [← HW.out]; exact (Below.heap_alloc _ _ _ (blk_lt HCUR.out)).trans HCUR.out) (by omega) (by omega) ?_
            go_wp2_with fail
            go_roundg ((sel κ false n).length - (t + 1))
            case rel => exact ⟨t + 1, by omega, rfl, by go_num, by rw [take_step HTI.out, ← HW.out]; exact HB.out.putA _ (by omega) HCUR.out⟩
            case measure => omega
          · have hz0 : (f i).size = 0 := by omega
            have HZ := Lib.hid hz0
            clear hz0
            have hoff2 : (tot f i : Int) ≤ (tot f n : Int) := by omega
            by_cases hoff : tot f n = tot f i
            · have hoffs : tot f i ≤ tot f n ∧ tot f n ≤ tot f i := by omega
              have HOFF := Lib.hid hoff
              clear hoff
              go_wp2_with fail
              have d1 : (wr.alloc (.cells #[.string (f i), .int .u32 (tot f i)] 44)).cell? ⟨wr.heap.size, 0, none⟩ = some (.string (f i)) := by simp [go_sem]
              have d2 : (wr.alloc (.cells #[.string (f i), .int .u32 (tot f i)] 44)).cell? ⟨wr.heap.size, 1, none⟩ = some (.int .u32 (tot f i)) := by simp [go_sem]
              generalize hW : wr.alloc (.cells #[.string (f i), .int .u32 (tot f i)] 44) = w5 at d1 d2 ⊢
              have HW := Lib.hid hW
              clear hW
              go_still_tail 6, (by kernel_rfl)
              change wpList _ _ _ _ _ w5.drew
              refine wpList_copy_str0 rfl (.tmp 56) (.tmp 58) 34 9 rfl 5 Try.underlying34 (by kernel_rfl) _ _ _ (f i) rfl rfl HZ.out ?_
              go_wp2_with fail
              rw [← HOFF.out]
              go_roundg ((sel κ false n).length - (t + 1))
              case rel => exact ⟨t + 1, by omega, rfl, by go_num, by rw [take_step HTI.out, ← HW.out]; exact HB.out.skip _ HZ.out⟩
              case measure => omega
            · go_wp2_with fail
              have d1 : (wr.alloc (.cells #[.string (f i), .int .u32 (tot f i)] 44)).cell? ⟨wr.heap.size, 0, none⟩ = some (.string (f i)) := by simp [go_sem]
              have d2 : (wr.alloc (.cells #[.string (f i), .int .u32 (tot f i)] 44)).cell? ⟨wr.heap.size, 1, none⟩ = some (.int .u32 (tot f i)) := by simp [go_sem]
              generalize hW : wr.alloc (.cells #[.string (f i), .int .u32 (tot f i)] 44) = w5 at d1 d2 ⊢
              have HW := Lib.hid hW
              clear hW
              go_still_tail 6, (by kernel_rfl)
              change wpList _ _ _ _ _ w5.drew
              refine wpList_copy_str0 rfl (.tmp 56) (.tmp 58) 34 9 rfl 5 Try.underlying34 (by kernel_rfl) _ _ _ (f i) rfl rfl HZ.out ?_
              go_wp2_with fail
              go_roundg ((sel κ false n).length - (t + 1))
              case rel => exact ⟨t + 1, by omega, rfl, by go_num, by rw [take_step HTI.out, ← HW.out]; exact HB.out.skip _ HZ.out⟩
              case measure => omega
        · have htn : t = (sel κ false n).length := by omega
          have HB := Lib.hid hB
          have HTN := Lib.hid htn
          clear hB htn
          have q1' := (HB.out.bel.cell (p := ⟨jb, 1, none⟩) hjl).trans q1
          go_wp2_with fail
          obtain ⟨wo, rfl⟩ : ∃ wo : World, wo = wr := ⟨_, rfl⟩
          have HBF : Hid (Bf w wo w.heap.size (tot f n) f (sel κ false n ++ (sel κ true n).take 0)) := Lib.hid (by
            have := HB.out
            rw [HTN.out, List.take_length] at this
            simpa using this)
          go_loopg [66] (sel κ true n).length (fun gh s wr => ∃ t : Nat, t ≤ (sel κ true n).length ∧ gh = (sel κ true n).length - t ∧ s = .int .i64 t ∧ Bf w wr w.heap.size (tot f n) f (sel κ false n ++ (sel κ true n).take t))
          case atStart => exact ⟨0, Nat.zero_le _, rfl, rfl, by first | exact HBF.out | (simpa using HBF.out)⟩
          case round =>
            obtain ⟨t, ht', rfl, rfl, hB⟩ := hrel
            clear HBF
            by_cases hlt : t < (sel κ true n).length
            · obtain ⟨i, hti⟩ : ∃ i, (sel κ true n)[t]? = some i := ⟨_, List.getElem?_eq_getElem hlt⟩
              have hin : i < n ∧ κ i = true := mem_sel.1 (List.mem_of_getElem? hti)
              obtain ⟨g, hA, hbg, p1, p2⟩ := own_pair HJ.out.own2 hti
              have HTI := Lib.hid hti
              clear hti
              subst hA
              have hgl : g < w.heap.size := block_lt_of_cell p1
              have p1' := (hB.bel.cell (p := ⟨g, t * 2, none⟩) hgl).trans p1
              have p2' := (hB.bel.cell (p := ⟨g, t * 2 + 1, none⟩) hgl).trans p2
              simp only [bF, oF] at p1' p2'
              clear p1 p2
              have hti2 := tot_at f hin.1
              obtain ⟨buf, hrw, hbo⟩ := hB.buf
              obtain ⟨cur, hcur, hcs, hcc⟩ := hrw
              have HB := Lib.hid hB
              have HCUR := Lib.hid hcur
              have HIN := Lib.hid hin
              have hcs' : cur.size ≤ tot f n := by omega
              have hcs'' : tot f n ≤ cur.size := by omega
              clear hB hcur hbo hcc hcs hin
              have hlt' : (t : Int) < ((sel κ true n).length : Int) := by omega
              by_cases hz : 0 < (f i).size
              · have hoff : ¬ tot f n = tot f i := by omega
                have hoff2 : (tot f i : Int) ≤ (tot f n : Int) := by omega
                have HBRI := Lib.hid (HJ.out.byt i HIN.out.1 HIN.out.2)
                go_wp2_with fail
                have d1 : (wr.alloc (.cells #[.slice (Ad i) (f i).size (cp i), .int .u32 (tot f i)] 42)).cell? ⟨wr.heap.size, 0, none⟩ = some (.slice (Ad i) (f i).size (cp i)) := by simp [go_sem]
                have d2 : (wr.alloc (.cells #[.slice (Ad i) (f i).size (cp i), .int .u32 (tot f i)] 42)).cell? ⟨wr.heap.size, 1, none⟩ = some (.int .u32 (tot f i)) := by simp [go_sem]
                generalize hW : wr.alloc (.cells #[.slice (Ad i) (f i).size (cp i), .int .u32 (tot f i)] 42) = w5 at d1 d2 ⊢
                have HW := Lib.hid hW
                clear hW
                go_still_tail 6, (by kernel_rfl)
                change wpList _ _ _ _ _ w5.drew
                obtain ⟨gs, cs, fr, hAe, hsh, hsc⟩ := HBRI.out hz
                refine wpList_copy_own rfl (.tmp 73) (.tmp 75) 34 34 rfl 5 Try.underlying34 (by kernel_rfl) w.heap.size (tot f i) _ _ ⟨gs, 0, none⟩ _ _ rfl (by rw [← hAe]; rfl) cur 5 (by rw [← HW.out]; exact (Below.heap_alloc _ _ _ (blk_lt HCUR.out)).trans HCUR.out) (Lib.byteCells (f i).data.toList) (by rw [Lib.byteCells_length, show (f i).data.toList.length = (f i).size by simp]; exact (Nat.min_eq_left (by omega)).symm) (by rw [← HW.out]; exact src_cells HB.out.bel hsh hsc) (by simp [Lib.byteCells]; omega) (Lib.byteCells_one _) ?_
                go_wp2_with fail
                go_roundg ((sel κ true n).length - (t + 1))
                case rel => exact ⟨t + 1, by omega, rfl, by go_num, by rw [take_step HTI.out, ← HW.out]; exact (HB.out.putB _ (by omega) HCUR.out).assoc⟩
                case measure => omega
              · have hz0 : (f i).size = 0 := by omega
                have HZ := Lib.hid hz0
                clear hz0
                have hoff2 : (tot f i : Int) ≤ (tot f n : Int) := by omega
                by_cases hoff : tot f n = tot f i
                · have hoffs : tot f i ≤ tot f n ∧ tot f n ≤ tot f i := by omega
                  have HOFF := Lib.hid hoff
                  clear hoff
                  go_wp2_with fail
                  have d1 : (wr.alloc (.cells #[.slice (Ad i) (f i).size (cp i), .int .u32 (tot f i)] 42)).cell? ⟨wr.heap.size, 0, none⟩ = some (.slice (Ad i) (f i).size (cp i)) := by simp [go_sem]
                  have d2 : (wr.alloc (.cells #[.slice (Ad i) (f i).size (cp i), .int .u32 (tot f i)] 42)).cell? ⟨wr.heap.size, 1, none⟩ = some (.int .u32 (tot f i)) := by simp [go_sem]
                  generalize hW : wr.alloc (.cells #[.slice (Ad i) (f i).size (cp i), .int .u32 (tot f i)] 42) = w5 at d1 d2 ⊢
                  have HW := Lib.hid hW
                  clear hW
                  go_still_tail 6, (by kernel_rfl)
                  change wpList _ _ _ _ _ w5.drew
                  refine wpList_copy_nothing rfl (.tmp 73) (.tmp 75) 34 34 rfl 5 Try.underlying34 (by kernel_rfl) _ _ _ _ _ _ rfl rfl (by rw [HZ.out]; exact Nat.zero_min _) ?_
                  go_wp2_with fail
                  rw [← HOFF.out]
                  go_roundg ((sel κ true n).length - (t + 1))
                  case rel => exact ⟨t + 1, by omega, rfl, by go_num, by rw [take_step HTI.out, ← HW.out]; exact (HB.out.skip _ HZ.out).assoc⟩
                  case measure => omega
                · go_wp2_with fail
                  have d1 : (wr.alloc (.cells #[.slice (Ad i) (f i).size (cp i), .int .u32 (tot f i)] 42)).cell? ⟨wr.heap.size, 0, none⟩ = some (.slice (Ad i) (f i).size (cp i)) := by simp [go_sem]
                  have d2 : (wr.alloc (.cells #[.slice (Ad i) (f i).size (cp i), .int .u32 (tot f i)] 42)).cell? ⟨wr.heap.size, 1, none⟩ = some (.int .u32 (tot f i)) := by simp [go_sem]
                  generalize hW : wr.alloc (.cells #[.slice (Ad i) (f i).size (cp i), .int .u32 (tot f i)] 42) = w5 at d1 d2 ⊢
                  have HW := Lib.hid hW
                  clear hW
                  go_still_tail 6, (by kernel_rfl)
                  change wpList _ _ _ _ _ w5.drew
                  refine wpList_copy_nothing rfl (.tmp 73) (.tmp 75) 34 34 rfl 5 Try.underlying34 (by kernel_rfl) _ _ _ _ _ _ rfl rfl (by rw [HZ.out]; exact Nat.zero_min _) ?_
                  go_wp2_with fail
                  go_roundg ((sel κ true n).length - (t + 1))
                  case rel => exact ⟨t + 1, by omega, rfl, by go_num, by rw [take_step HTI.out, ← HW.out]; exact (HB.out.skip _ HZ.out).assoc⟩
                  case measure => omega
            · have htn : t = (sel κ true n).length := by omega
              have HB := Lib.hid hB
              have HTN := Lib.hid htn
              clear hB htn
              go_wp2_with fail
              go_ret
              obtain ⟨buf, hrow, hok⟩ := HB.out.buf
              rw [HTN.out, List.take_length] at hok
              exact ⟨_, _, rfl, RowF.of_rowIs (hrow.congr fun p hp => by rw [hok.full (fun i hi => sel_cover κ n i hi) hp]) (Nat.le_refl _) hrow.lt, HB.out.bel⟩
end Go.Proofs.Ytkdbgonfikibeaa
