/- The walks of the Joiner's two laws. -/
import Derived.Test.YtkdbgonfikibeaaDoneX
import Derived.Test.YtkdbgonfikibeaaCommon
namespace Go.Proofs.Ytkdbgonfikibeaa
open Go.RowKit
set_option linter.unusedVariables false
set_option linter.unusedSimpArgs false

def bv (l : List UInt8) : List Value := l.map fun b => .int .u8 (b.toNat : Int)
theorem bv_length (l : List UInt8) : (bv l).length = l.length := by simp [bv]
theorem bv_snoc (l : List UInt8) (b : UInt8) : bv l ++ [.int .u8 (b.toNat : Int)] = bv (l ++ [b]) := by simp [bv]
theorem take_byte (s : ByteArray) {j : Nat} (h : j < s.size) : s.data.toList.take (j + 1) = s.data.toList.take j ++ [s[j]] := by
  rw [List.take_succ_eq_append_getElem (by simpa using h)]; rfl
theorem mk0 : ∀ w, (Instr.makeSlice 34 (.int .i64 0) (.int .i64 0)).run Try.prog w = .ok (.slice (some ⟨w.heap.size, 0, none⟩) 0 0) (w.alloc (.cells #[] 5)) := fun _ => by kernel_rfl

theorem own_row {w : World} {base N : Nat} {v : Value} {l : List UInt8} (h : w.ownsRow base 5 1 v N (bv l)) : ∃ A c, v = .slice A N c ∧ RowF w w.heap.size A N (fun p => .int .u8 ((l.getD p 0).toNat : Int)) := by
  have hl : l.length = N := by have := h.1; rw [bv_length] at this; omega
  rcases h.2 with ⟨rfl, h0⟩ | ⟨g, cap, cur, rfl, hb, hh, _⟩
  · subst h0; exact ⟨none, 0, rfl, fun h => absurd h (by omega)⟩
  · refine ⟨_, cap, rfl, fun hp => ⟨g, 0, rfl, blk_lt hh, fun j hj => ?_⟩⟩
    have hjl : j < l.length := by omega
    have := h.cells (g := g) rfl j (.int .u8 (l[j].toNat : Int)) (by simp [bv, hjl])
    rw [add_flat] at this
    rw [this]
    simp [List.getD_eq_getElem?_getD, hjl]
theorem tot_congr {f f' : Nat → ByteArray} {k : Nat} (h : ∀ i, i < k → f i = f' i) : tot f k = tot f' k := by
  induction k with
  | zero => rfl
  | succ k ih => simp only [tot]; rw [ih (fun i hi => h i (by omega)), h k (by omega)]
theorem sel_congr {κ κ' : Nat → Bool} {k : Nat} (h : ∀ i, i < k → κ i = κ' i) (b : Bool) : sel κ b k = sel κ' b k := by
  unfold sel
  refine List.filter_congr fun i hi => ?_
  rw [h i (by simpa using hi)]
theorem J.congr {w : World} {jb base : Nat} {f f' : Nat → ByteArray} {κ κ' : Nat → Bool} {k : Nat} (h : J w jb base f κ k) (hf : ∀ i, i < k → f i = f' i) (hκ : ∀ i, i < k → κ i = κ' i) : J w jb base f' κ' k := by
  obtain ⟨A1, c1, A2, c2, b, Ad, cp, h⟩ := h
  have ht : ∀ i, i ≤ k → tot f i = tot f' i := fun i hi => tot_congr fun j hj => hf j (by omega)
  have p1 : pairs (sF f) (oF f) (sel κ false k) = pairs (sF f') (oF f') (sel κ' false k) := by
    rw [sel_congr hκ]
    refine pairs_congr fun i hi => ?_
    have := (mem_sel.1 hi).1
    exact ⟨by simp [sF, hf i this], by simp [oF, ht i (by omega)]⟩
  have p2 : pairs (bF f Ad cp) (oF f) (sel κ true k) = pairs (bF f' Ad cp) (oF f') (sel κ' true k) := by
    rw [sel_congr hκ]
    refine pairs_congr fun i hi => ?_
    have := (mem_sel.1 hi).1
    exact ⟨by simp [bF, hf i this], by simp [oF, ht i (by omega)]⟩
  have e1 : (sel κ false k).length = (sel κ' false k).length := by rw [sel_congr hκ]
  have e2 : (sel κ true k).length = (sel κ' true k).length := by rw [sel_congr hκ]
  refine ⟨A1, c1, A2, c2, b, Ad, cp, h.lt, h.le, ?_, ?_, ?_, fun i hi hk => ?_⟩
  · rw [← e1, ← e2, ← ht k (Nat.le_refl _)]; exact h.row
  · rw [← e1, ← p1]; exact h.own1
  · rw [← e2, ← p2]; exact h.own2
  · rw [← hf i hi]; exact h.byt i hi (by rw [hκ i hi]; exact hk)
set_option maxHeartbeats 1000000 in
theorem concat (A : Option Addr) (n c : Nat) (f : Nat → ByteArray) (w : World) (h : RowF w w.heap.size A n (fun i => .string (f i))) (hn : n ≤ 1048576) (ht : tot f n ≤ 1048576) : Calls Try.prog 10 #[.slice A n c] w (DoneAt f n w) := by
  have H := Lib.hid h
  obtain ⟨i0, hi, hz0, hz1, hz2⟩ := info_parts Try.info5
  have HI := Lib.hid hi
  have HZ0 := Lib.hid hz0
  have HZ1 := Lib.hid hz1
  have HZ2 := Lib.hid hz2
  clear h hi hz0 hz1 hz2
  have hmk := mk0
  go_enter Try.func10, Try.ntmps10
  go_wp2_with fail
  clear hmk
  go_loopg [3, 4] n (fun g s z wr => ∃ k : Nat, k ≤ n ∧ g = n - k ∧ z = .int .i64 k ∧ wr.ownsRow w.heap.size 5 1 s (tot f k) (bv (catL f k)) ∧ Below w.heap.size w wr)
  case atStart => exact ⟨0, Nat.zero_le _, rfl, rfl, World.ownsRow_made w #[] 0 (Nat.le_refl _) (Nat.zero_le _) rfl, (Below.refl _ _).alloc (Nat.le_refl _) _⟩
  case round =>
    obtain ⟨k, hk, rfl, rfl, ho, hb⟩ := hrel
    have HO := Lib.hid ho
    have HB := Lib.hid hb
    by_cases hlt : k < n
    · obtain ⟨b, o, rfl, hbb, hc⟩ := H.out.at_ hlt
      have hc' : wr.cell? ⟨b, o + k, none⟩ = some (.string (f k)) := (hb.cell (p := ⟨b, o + k, none⟩) hbb).trans hc
      have ht1 := tot_at f hlt
      clear hc ho hb
      go_wp2_with fail
      obtain ⟨wo, rfl⟩ : ∃ wo : World, wo = wr := ⟨_, rfl⟩
      go_loopg [3, 6] (f k).size (fun g s z wr => ∃ j : Nat, j ≤ (f k).size ∧ g = (f k).size - j ∧ z = .int .i64 j ∧ wr.ownsRow w.heap.size 5 1 s (tot f k + j) (bv (catL f k ++ (f k).data.toList.take j)) ∧ Below w.heap.size w wr)
      case atStart => exact ⟨0, Nat.zero_le _, rfl, rfl, by simpa using HO.out, HB.out⟩
      case round =>
        obtain ⟨j, hj, rfl, rfl, ho, hb⟩ := hrel
        clear HO HB hc'
        have HO := Lib.hid ho
        have HB := Lib.hid hb
        have hwr := hb.size
        clear ho hb
        by_cases hjl : j < (f k).size
        · go_wp2_with (at_builtin; refine wpList_append_own _ rfl (.tmp 24) (.tmp 28) 34 rfl w.heap.size 5 i0 _ 1 1 Try.underlying34 HI.out HZ0.out HZ1.out HZ2.out rfl (by decide) _ _ _ rfl (by exact HO.out.alloc _) ⟨wr.heap.size, 0, none⟩ 1 1 [.int .u8 ((f k)[j].toNat : Int)] rfl rfl (cell_one_new _ _ _) (by simp [Value.oneCell']) (by unfold maxLen; omega) (by omega) (by simp; omega) ?_; intro v1 w1 hown hgr _)
          have HO1 := Lib.hid hown
          have HB1 : Hid (Below w.heap.size w w1) := Lib.hid (((HB.out.alloc hwr _).grown hgr (by simp; omega) (fun q hq => (HO.out.lt q hq).1)))
          clear hown hgr
          go_wp2_with fail
          go_roundg ((f k).size - (j + 1))
          case rel => exact ⟨j + 1, by omega, rfl, by go_num, by have := HO1.out; rw [bv_snoc, List.append_assoc, ← take_byte _ hjl] at this; exact this, HB1.out⟩
          case measure => omega
        · go_wp2_with fail
          go_roundg (n - (k + 1))
          case rel =>
            refine ⟨k + 1, by omega, rfl, by go_num, ?_, HB.out⟩
            have := HO.out
            obtain rfl : j = (f k).size := by omega
            rw [List.take_of_length_le (by simp)] at this
            exact this
          case measure => omega
    · have hkn : k = n := by omega
      subst hkn
      clear ho hb
      go_wp2_with fail
      go_ret
      obtain ⟨A', c', hv, hr⟩ := own_row HO.out
      exact ⟨A', c', by rw [← hv]; rfl, hr, HB.out⟩
theorem lengthOf (jb base n : Nat) (f : Nat → ByteArray) (κ : Nat → Bool) (w : World) (hJ : J w jb base f κ n) : Calls Try.prog 13 #[.pointer (some ⟨jb, 0, none⟩)] w fun e w' => e = .returned (.int .u32 (tot f n)) ∧ w = w' := by
  obtain ⟨A1, c1, A2, c2, b, Ad, cp, hJ⟩ := hJ
  have q2 := hJ.row.cell (i := 2) (by omega)
  simp only [jf] at q2
  clear hJ
  go_enter Try.func13, Try.ntmps13
  go_wp2
  go_ret
  exact ⟨rfl, rfl⟩

def Ens (jb base n : Nat) (f : Nat → ByteArray) (w : World) (e : Ending) (w' : World) : Prop :=
  e = .returned (.tuple #[]) ∧ ∃ f' κ' n', J w' jb base f' κ' n' ∧ n' ≤ n + 1 ∧ tot f' n' ≤ tot f n + 1 ∧ Below jb w w'
set_option maxHeartbeats 1000000 in
theorem ensure (jb base n : Nat) (f : Nat → ByteArray) (κ : Nat → Bool) (hn : n ≤ 1048576) (ht : tot f n ≤ 1048576) (w : World) (hJ : J w jb base f κ n) : Calls Try.prog 12 #[.pointer (some ⟨jb, 0, none⟩)] w (Ens jb base n f w) := by
  obtain ⟨f', hf'⟩ : ∃ f' : Nat → ByteArray, f' = fun i => if i = n then ⟨#[10]⟩ else f i := ⟨_, rfl⟩
  obtain ⟨κ', hκ'⟩ : ∃ κ' : Nat → Bool, κ' = fun i => if i = n then false else κ i := ⟨_, rfl⟩
  have hJ' : J w jb base f' κ' n := hJ.congr (fun i hi => by rw [hf']; simp [show ¬ i = n by omega]) (fun i hi => by rw [hκ']; simp [show ¬ i = n by omega])
  have hfn : f' n = ⟨#[10]⟩ := by rw [hf']; simp
  have hκn : κ' n = false := by rw [hκ']; simp
  have htn : tot f' n = tot f n := (tot_congr fun i hi => by rw [hf']; simp [show ¬ i = n by omega]).symm
  clear hf' hκ'
  have HJ := Lib.hid hJ
  have HJ' := Lib.hid hJ'
  obtain ⟨A1, c1, A2, c2, b, Ad, cp, hJ⟩ := hJ
  have q2 := hJ.row.cell (i := 2) (by omega)
  have q3 := hJ.row.cell (i := 3) (by omega)
  simp only [jf] at q2 q3
  clear hJ hJ'
  have HFN := Lib.hid hfn
  have HKN := Lib.hid hκn
  have HTN := Lib.hid htn
  clear hfn hκn htn
  by_cases h0 : 0 < tot f n
  · by_cases hb : b = 10
    · subst hb
      go_enter Try.func12, Try.ntmps12
      go_wp2_with fail
      go_end0
      exact ⟨rfl, f, κ, n, HJ.out, by omega, by omega, Below.refl _ _⟩
    · have hb' : (b != 10) = true := by simp [hb]
      clear hb
      go_enter Try.func12, Try.ntmps12
      go_wp2_with fail
      have hc := addString jb base n f' κ' HKN.out (by rw [HTN.out, HFN.out]; show _ + 1 ≤ _; omega) (by omega) w HJ'.out
      rw [HFN.out] at hc
      refine hc.mono ?_
      rintro e wx ⟨rfl, h1, h2⟩
      have H1 := Lib.hid h1
      have H2 := Lib.hid h2
      clear h1 h2 hc
      go_wp2_with fail
      go_end0
      exact ⟨rfl, f', κ', n + 1, H1.out, Nat.le_refl _, by simp only [tot]; rw [HTN.out, HFN.out]; exact Nat.le_refl _, H2.out⟩
  · have h00 : tot f n = 0 := by omega
    rw [h00] at q2
    clear h00
    go_enter Try.func12, Try.ntmps12
    go_wp2_with fail
    go_end0
    exact ⟨rfl, f, κ, n, HJ.out, by omega, by omega, Below.refl _ _⟩

theorem decB {p : Prop} [Decidable p] (v : Bool) (h : decide p = v) {P : Program} {F : FuncId} {args : Array Value} {w : World} (c : Calls P F args w fun e w' => e = .returned (.bool (decide p)) ∧ w = w') :
    Calls P F args w fun e w' => e = .returned (.bool v) ∧ w = w' := by rw [h] at c; exact c
theorem J.start (w : World) (f : Nat → ByteArray) (κ : Nat → Bool) : J (w.alloc (.cells #[.slice none 0 0, .slice none 0 0, .int .u32 0, .int .u8 0] 30)) w.heap.size (w.heap.size + 1) f κ 0 := by
  refine ⟨none, 0, none, 0, 0, fun _ => none, fun _ => 0, by omega, by simp, ?_, World.ownsRow_nil _ _ _ _, World.ownsRow_nil _ _ _ _, fun i hi => absurd hi (by omega)⟩
  refine World.rowIs_alloc w #[.slice none 0 0, .slice none 0 0, .int .u32 0, .int .u8 0] 30 _ fun i hi => ?_
  rcases (show i = 0 ∨ i = 1 ∨ i = 2 ∨ i = 3 by simp at hi; omega) with rfl | rfl | rfl | rfl <;> rfl

set_option maxHeartbeats 1000000 in
theorem fnDoneEqualsConcatenation.walk (a0 : Option Addr) (n0 c0 : Nat) (f0 : Nat → ByteArray) (a1 : Option Addr) (n1 c1 : Nat) (f1 : Nat → Bool) (w : World) (w0 : InStrs w a0 n0 c0 f0) (w1 : InBools w a1 n1 c1 f1) :
    Calls Try.prog 3 #[.slice a0 n0 c0, .slice a1 n1 c1] w fun e w' => e = .returned (.bool true) ∧ Below w.heap.size w w' := by
  have hm1 := Nat.le_trans w1.le w1.max
  by_cases htot : n0 + tot f0 n0 + n1 ≤ 1048576
  · have C1 := Lib.hid (decB true (decide_eq_true htot) (zzB5 a0 n0 c0 f0 a1 n1 c1 w w0 hm1))
    have C2 := Lib.hid (tooBig a0 n0 c0 f0 a1 n1 c1 w w0 htot)
    have W0 := Lib.hid w0
    have W1 := Lib.hid w1
    clear w0 w1 hm1
    go_enter Try.func3, Try.ntmps3
    go_wp2_with fail
    refine C1.out.mono ?_
    rintro e w' ⟨rfl, rfl⟩
    go_wp2_with fail
    refine C2.out.mono ?_
    rintro e w' ⟨bg, rfl, rfl⟩
    cases bg
    · go_wp2_with fail
      have hra := (W0.out.row.keep (w' := w.alloc (.cells #[.slice none 0 0, .slice none 0 0, .int .u32 0, .int .u8 0] 30)) fun p hp => World.cell?_alloc_old _ _ _ (by omega))
      have hrb := (W1.out.row.keep (w' := w.alloc (.cells #[.slice none 0 0, .slice none 0 0, .int .u32 0, .int .u8 0] 30)) fun p hp => World.cell?_alloc_old _ _ _ (by omega))
      have HRA := Lib.hid hra
      refine (build w.heap.size (w.heap.size + 1) a0 n0 c0 f0 a1 n1 c1 f1 _ hra hrb (by omega) (by omega) (by omega) (J.start w f0 _)).mono ?_
      rintro e wa ⟨rfl, hj, hb⟩
      have HJ := Lib.hid hj
      have HB := Lib.hid hb
      have HR1 := Lib.hid (HRA.out.below hb)
      have hsz := hb.size
      clear hj hb hra hrb
      go_wp2_with fail
      refine (done w.heap.size (w.heap.size + 1) n0 f0 _ (by omega) (by omega) _ HJ.out).mono ?_
      rintro e wb ⟨A, c, rfl, hr, hb⟩
      have HD := Lib.hid hr
      have HB2 := Lib.hid hb
      have hsz2 := hb.size
      simp at hsz
      have HR2 := Lib.hid ((HR1.out.more (by omega : w.heap.size ≤ wa.heap.size)).below hb)
      clear hr hb
      go_wp2_with fail
      refine (concat a0 n0 c0 f0 _ (HR2.out.more hsz2) (by omega) (by omega)).mono ?_
      rintro e wc ⟨A', c', rfl, hr, hb⟩
      have HD1 := Lib.hid (HD.out.below hb)
      have HD2 := Lib.hid hr
      have HB3 := Lib.hid hb
      clear hr hb
      go_wp2_with fail
      refine (equalT A (tot f0 n0) c A' c' _ _ _ _ HD1.out HD2.out (by omega)).mono ?_
      rintro e wd ⟨rfl, hb⟩
      have HB4 := Lib.hid hb
      clear hb
      go_wp2_with fail
      go_ret
      have s1 : w.heap.size ≤ wa.heap.size := by omega
      have b0 : Below w.heap.size w wa := ((Below.refl _ _).alloc (Nat.le_refl _) _).trans HB.out
      exact ⟨rfl, ((b0.trans (HB2.out.mono s1)).trans (HB3.out.mono (by omega))).trans (HB4.out.mono (by have := HB3.out.size; omega))⟩
    · go_wp2_with fail
      go_ret
      exact ⟨rfl, Below.refl _ _⟩
  · have C1 := Lib.hid (decB false (decide_eq_false htot) (zzB5 a0 n0 c0 f0 a1 n1 c1 w w0 hm1))
    clear w0 w1 hm1
    go_enter Try.func3, Try.ntmps3
    go_wp2_with fail
    refine C1.out.mono ?_
    rintro e w' ⟨rfl, rfl⟩
    go_wp2_with fail
    go_ret
    exact ⟨rfl, Below.refl _ _⟩
end Go.Proofs.Ytkdbgonfikibeaa
