/- The harness around validateKeepNames. -/
import Derived.Test.YtnccjpkeaapefaaFmtKe
namespace Go.Proofs.YtnccjpkeaapefaaFmt
open Go.RowKit Go.Extern.Stop Go.Stop Go.Extern
set_option linter.unusedVariables false
set_option linter.unusedSimpArgs false
noncomputable def optC (k : Bool) (u : Nat) (s : ByteArray) (m : Nat) : Array Value := (((Tryf.zeroCells94.setIfInBounds 92 (.bool k)).setIfInBounds 59 (.int .u64 u)).setIfInBounds 10 (.string s)).setIfInBounds 62 (.int .u64 m)
theorem wp_build_is {P : Program} {o : Oper} {a : Act} {w : World} {K : Act → World → Prop} {Q : Exit → Act → World → Prop} (t : TypeId) (parts : Array (Nat × Operand)) (ho : o.op = .build t parts)
    (cells : Array Value) (hc : P.built t (parts.map fun (i, x) => (i, a.eval x)).toList = some cells)
    (h : K (a.put o.dst (.agg cells)) w) : o.wp P a w K Q :=
  wp_build t parts ho (by rw [hc]; rfl) (by rw [hc]; exact h)
theorem opt92 (k : Bool) (u : Nat) (s : ByteArray) (m : Nat) : (optC k u s m)[92]? = some (.bool k) := by kernel_rfl
theorem opt59 (k : Bool) (u : Nat) (s : ByteArray) (m : Nat) : (optC k u s m)[59]? = some (.int .u64 u) := by kernel_rfl
theorem opt10 (k : Bool) (u : Nat) (s : ByteArray) (m : Nat) : (optC k u s m)[10]? = some (.string s) := by kernel_rfl
theorem opt62 (k : Bool) (u : Nat) (s : ByteArray) (m : Nat) : (optC k u s m)[62]? = some (.int .u64 m) := by kernel_rfl
theorem valAny (F : Interp) (b O : Nat) (k : Bool) (u m : Nat) (s : ByteArray) (w : World) (h : Opt O k u m s w) (hl : LogAt b 0 false w) (hm0 : w.heap[b + 2]? = some (.cells #[.slice none 0 0] 96 (0, 0))) (hF : F.told.answers w.tape) (V : Bool) (N : Nat) (hV : (k && bit27 u) = V) (hN : N = if V = true then 1 else 0) :
    Calls Tryf.prog 8 #[.agg (logC b), .pointer (some ⟨O, 0, none⟩)] w fun e w' => e = .returned (.tuple #[]) ∧ LogAt b N V w' ∧ Kept b w w' := by
  subst hV hN
  cases hc : (k && bit27 u)
  · refine (valNo b O k u m s hc w h).mono ?_
    rintro e w' ⟨rfl, hb⟩
    exact ⟨rfl, hl.keep (hb.block), Kept.of_below hb⟩
  · have hk : k = true := by cases k <;> simp_all
    subst hk
    refine (valYes F b O u m s (by simpa using hc) w h hl hm0 hF).mono ?_
    rintro e w' ⟨rfl, h1, h2⟩
    exact ⟨rfl, h1, h2⟩
set_option maxRecDepth 100000 in
set_option maxHeartbeats 4000000 in
theorem zzV (F : Interp) (k : Bool) (u m : Nat) (s : ByteArray) (w : World) (hF : F.told.answers w.tape) (V : Bool) (N : Nat) (hV : (k && bit27 u) = V) (hN : N = if V = true then 1 else 0) :
    Calls Tryf.prog 6 #[.bool k, .int .u64 u, .string s, .int .u64 m] w fun e w' => e = .returned (.tuple #[.int .i64 N, .bool V]) ∧ Below w.heap.size w w' := by
  have HF := Lib.hid hF
  have hN1 : N ≤ 1 := by rw [hN]; split <;> omega
  have HV := Lib.hid hV
  have HN := Lib.hid hN
  clear hF hV hN
  go_enter Tryf.func6, Tryf.ntmps6
  go_wp2_with (go_at_call 7; refine (newLog _).mono ?_; unfold logC pt; rintro e w1 ⟨rfl, hl, hm, hb, hs⟩; have HL := Lib.hid hl; have HM := Lib.hid hm; have HB := Lib.hid hb; clear hl hm hb; generalize hG : w.heap.size = G at *)
  refine wp_build_is 94 _ rfl (optC k u s m) (by kernel_rfl) ?_
  obtain ⟨X, hX⟩ : ∃ X, X = (w1.alloc (Obj.cells (logC G) 34)).alloc (Obj.cells (optC k u s m) 94) := ⟨_, rfl⟩
  have h5 : X.heap[G + 5]? = some (.cells (logC G) 34 (0, 0)) := by rw [hX]; exact (Below.heap_alloc _ _ _ (by simp; omega)).trans (heap_alloc_at hs.symm)
  have h6 : X.heap[G + 5 + 1]? = some (.cells (optC k u s m) 94 (0, 0)) := by rw [hX]; exact heap_alloc_at (by simp; omega)
  have hXs : X.heap.size = G + 7 := by rw [hX]; simp; omega
  have HXB : Hid (Below w1.heap.size w1 X) := Lib.hid (by rw [hX]; exact below_alloc (below_alloc (Below.refl _ _) _) _)
  have HO : Hid (Opt (G + 5 + 1) k u m s X) := Lib.hid ⟨by omega, (Lib.cell_of_heap h6 92).trans (opt92 ..), (Lib.cell_of_heap h6 59).trans (opt59 ..), (Lib.cell_of_heap h6 10).trans (opt10 ..), (Lib.cell_of_heap h6 62).trans (opt62 ..)⟩
  have HLX := Lib.hid (HL.out.keep HXB.out.block)
  have HMX := Lib.hid ((HXB.out.block (G + 2) (by omega)).trans HM.out)
  have HFX : Hid (F.told.answers X.tape) := Lib.hid (by rw [HXB.out.tape, HB.out.tape]; exact HF.out)
  have H5 := Lib.hid h5
  have HBX : Hid (Below G w X) := Lib.hid (HB.out.trans (HXB.out.mono (by omega)))
  clear h5 h6
  unfold logC pt at hX
  go_wp2_with (first
    | (go_at_call 8; rw [← hX]; refine (valAny F G (G + 5 + 1) k u m s X HO.out HLX.out HMX.out HFX.out V N HV.out HN.out).mono ?_; rintro e w2 ⟨rfl, hl2, hk2⟩; have hx2 := (hk2.block (G + 5) (by omega) (Or.inr (Nat.le_refl _))).trans H5.out; have c1 : w2.cell? ⟨G + 5, 1, none⟩ = some (.func (Fn.func 12) #[] #[.pointer (some ⟨G + 3, 0, none⟩), .pointer (some ⟨G + 4, 0, none⟩)]) := (Lib.cell_of_heap hx2 1).trans rfl; have c3 : w2.cell? ⟨G + 5, 3, none⟩ = some (.func (Fn.func 14) #[] #[.pointer (some ⟨G + 3, 0, none⟩), .pointer (some ⟨G + 2, 0, none⟩)]) := (Lib.cell_of_heap hx2 3).trans rfl; have HL2 := Lib.hid hl2; have HK2 := Lib.hid hk2; have HX2 := Lib.hid hx2; clear hl2 hk2 hx2)
    | (go_at_call 12; refine (hasErr G _ _ _ HL2.out).mono ?_; rintro e w3 ⟨rfl, hl3, hk3⟩; have c33 : w3.cell? ⟨G + 5, 3, none⟩ = some (.func (Fn.func 14) #[] #[.pointer (some ⟨G + 3, 0, none⟩), .pointer (some ⟨G + 2, 0, none⟩)]) := (Lib.cell_of_heap ((hk3.block (G + 5) (by have := HK2.out.size; omega) (Or.inr (Nat.le_refl _))).trans HX2.out) 3).trans rfl; have HL3 := Lib.hid hl3; have HK3 := Lib.hid hk3; clear hl3 hk3)
    | (go_at_call 14; refine (doneLog G N _ hN1 _ HL3.out).mono ?_; rintro e w4 ⟨⟨A, c, rfl⟩, hl4, hk4⟩; have HK4 := Lib.hid hk4; clear hl4 hk4))
  refine bodyPost_ret (v := .tuple #[.int .i64 N, .bool V]) (by simp [results, Tryf.results6, go_sem]) rfl ⟨rfl, ?_⟩
  rw [hG]
  exact HBX.out.trans ((((HK2.out.trans HK3.out).trans HK4.out).below (Nat.le_refl _) (by omega)))
theorem zz (F : Interp) (k : Bool) (u m : Nat) (s : ByteArray) (w : World) (hF : F.told.answers w.tape) :
    Calls Tryf.prog 6 #[.bool k, .int .u64 u, .string s, .int .u64 m] w fun e w' => e = .returned (.tuple #[.int .i64 (if (k && bit27 u) = true then 1 else 0 : Nat), .bool (k && bit27 u)]) ∧ Below w.heap.size w w' :=
  zzV F k u m s w hF _ _ rfl rfl
end Go.Proofs.YtnccjpkeaapefaaFmt
