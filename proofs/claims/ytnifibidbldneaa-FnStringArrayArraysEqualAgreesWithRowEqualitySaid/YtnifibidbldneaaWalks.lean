/- The walks of the helpers of StringArraysEqual's laws. -/
import Derived.Test.YtnifibidbldneaaCommon
import Derived.Test.YtnifibidbldneaaMath
import Derived.OwnWalk
namespace Go.Proofs.Ytnifibidbldneaa
open Go.RowKit
set_option linter.unusedVariables false
set_option linter.unusedSimpArgs false

theorem Try.info5 : (Try.prog.info? 5).map (fun i => (i.zero, i.size, i.bytes)) = some (some (.int .u8 0), 1, 1) := by kernel_rfl

def SomeBytes (n : Nat) (w : World) (e : Ending) (w' : World) : Prop := ∃ r : Int, e = .returned (.int .i64 r) ∧ w = w' ∧ 0 ≤ r ∧ r ≤ 1048577 ∧ (r ≤ 1048576 → 16 * (n : Int) ≤ r)
theorem strBytes (A : Option Addr) (n c : Nat) (f : Nat → ByteArray) (B : Nat) (w : World) (h : RowF w B A n (fun i => .string (f i))) (hn : n + tot f n ≤ 1048576) : Calls Try.prog 6 #[.slice A n c] w (SomeBytes n w) := by
  have H := Lib.hid h
  clear h
  go_enter Try.func6, Try.ntmps6
  go_wp2_with fail
  go_loopg [3, 4] n (fun g s z wr => w = wr ∧ ∃ k T : Nat, k ≤ n ∧ g = n - k ∧ s = .int .i64 (T : Int) ∧ T ≤ 1048576 ∧ 16 * k ≤ T ∧ z = .int .i64 k)
  case atStart => exact ⟨rfl, 0, 0, Nat.zero_le _, rfl, rfl, by omega, by omega, rfl⟩
  case round =>
    obtain ⟨rfl, k, T, hk, rfl, rfl, hT, hT2, rfl⟩ := hrel
    by_cases hlt : k < n
    · obtain ⟨b, o, rfl, hb, hc⟩ := H.out.at_ hlt
      have ht := tot_at f hlt
      by_cases g2 : T + (16 + (f k).size) ≤ 1048576
      · go_wp2_with fail
        go_roundg (n - (k + 1))
        case rel => exact ⟨rfl, k + 1, T + (16 + (f k).size), by omega, rfl, by go_num, by omega, by omega, by go_num⟩
        case measure => omega
      · go_wp2_with fail
        go_ret
        exact ⟨_, rfl, rfl, by omega, by omega, fun h => absurd h (by omega)⟩
    · go_wp2_with fail
      go_ret
      exact ⟨_, rfl, rfl, by omega, by omega, by omega⟩
theorem ne_toList {a b : ByteArray} (h : a ≠ b) : (a.toList == b.toList) = false := by
  rw [beq_eq_false_iff_ne]
  intro e
  rw [Lib.toList_data, Lib.toList_data] at e
  exact h (bytes_ext e)
theorem arraysEqual (A : Option Addr) (n c : Nat) (f : Nat → ByteArray) (A' : Option Addr) (m d : Nat) (g : Nat → ByteArray) (B B' : Nat) (w : World) (h : RowF w B A n (fun i => .string (f i))) (h' : RowF w B' A' m (fun i => .string (g i))) (hn : n ≤ 1048576) (hm : m ≤ 1048576) :
    Calls Try.prog 8 #[.slice A n c, .slice A' m d] w fun e w' => e = .returned (.bool (sameS n f m g)) ∧ w = w' := by
  have H := Lib.hid h
  have H' := Lib.hid h'
  clear h h'
  by_cases hnm : n = m
  · subst hnm
    go_enter Try.func8, Try.ntmps8
    go_wp2_with fail
    go_loopg [14] n (fun gh z wr => w = wr ∧ ∃ k : Nat, k ≤ n ∧ gh = n - k ∧ z = .int .i64 k ∧ ∀ i, i < k → f i = g i)
    case atStart => exact ⟨rfl, 0, Nat.zero_le _, rfl, rfl, fun i hi => absurd hi (by omega)⟩
    case round =>
      obtain ⟨rfl, k, hk, rfl, rfl, hs⟩ := hrel
      have HS := Lib.hid hs
      clear hs
      by_cases hlt : k < n
      · obtain ⟨b, o, rfl, hb, hc⟩ := H.out.at_ hlt
        obtain ⟨b', o', rfl, hb', hc'⟩ := H'.out.at_ hlt
        by_cases he : f k = g k
        · rw [← he] at hc'
          have HE := Lib.hid he
          clear he
          go_wp2_with fail
          go_roundg (n - (k + 1))
          case rel =>
            refine ⟨rfl, k + 1, by omega, rfl, by go_num, fun i hi => ?_⟩
            by_cases e : i = k
            · subst e; exact HE.out
            · exact HS.out i (by omega)
          case measure => omega
        · have hne := ne_toList he
          have HV := Lib.hid (show sameS n f n g = false by unfold sameS; exact decide_eq_false fun h => he (h.2 k hlt))
          clear he
          go_wp2_with fail
          go_ret
          exact ⟨ret_boolv HV.out, rfl⟩
      · have HV := Lib.hid (show sameS n f n g = true by unfold sameS; exact decide_eq_true ⟨rfl, fun i hi => HS.out i (by omega)⟩)
        go_wp2_with fail
        go_ret
        exact ⟨ret_boolv HV.out, rfl⟩
  · have hne : ((n : Int) != (m : Int)) = true := by simp; omega
    have HV := Lib.hid (show sameS n f m g = false by unfold sameS; exact decide_eq_false fun h => hnm h.1)
    clear hnm
    go_enter Try.func8, Try.ntmps8
    go_wp2_with fail
    go_ret
    exact ⟨ret_boolv HV.out, rfl⟩

def bv (l : List UInt8) : List Value := l.map fun b => .int .u8 (b.toNat : Int)
theorem bv_length (l : List UInt8) : (bv l).length = l.length := by simp [bv]
theorem bv_str (s : ByteArray) : Lib.strCells s = bv s.data.toList := rfl
def preS (n : Nat) : ByteArray := ⟨(pre8 n).toArray⟩

theorem slice24 (g i : Nat) (hi : i < 24) : ∀ W : World, (Instr.sliceAt 34 (.pointer (some ⟨g, 0, none⟩)) (some (.int .i64 (i : Int))) none none).run Try.prog W = .ok (.slice (some ⟨g, i, none⟩) (24 - i) (24 - i)) W := by
  have hal : Try.prog.arrayLen 34 = 24 := by kernel_rfl
  have hsz : ∀ W, (Go.sizeOf (Try.prog.elem 34)).run Try.prog W = .ok 1 W := fun _ => by kernel_rfl
  have hu : Try.prog.underlying 34 = some (.array (Try.prog.arrayLen 34) (Try.prog.elem 34)) := by kernel_rfl
  intro W
  rw [run_sliceAt_array_l W 34 _ hu .i64 (i : Int) (by omega) (by rw [hal]; omega), hsz]
  simp only [Result.andThen, slicedAt, hal, Int.toNat_natCast, Nat.mul_one]
  rw [if_neg (by omega), add_flat, Nat.zero_add]
set_option maxHeartbeats 1000000 in
theorem itoa (N : Nat) (hN : N ≤ 1048576) (w : World) : Calls Try.prog 14 #[.int .i64 N] w fun e w' => e = .returned (.string (preS N)) ∧ Below w.heap.size w w' := by
  rcases Nat.eq_zero_or_pos N with h0 | h0
  · subst h0
    go_enter Try.func14, Try.ntmps14
    go_wp2
    go_ret
    exact ⟨rfl, Below.refl _ _⟩
  · have hd : decide (N = 0) = false := by simp; omega
    have hN6 : N < 10 ^ 7 := by omega
    have HN6 := Lib.hid hN6
    clear hN6
    go_enter Try.func14, Try.ntmps14
    go_wp2_with fail
    go_loopg [0, 4] N (fun gh s z wr => ∃ (m i : Nat) (b : Nat → Nat), m ≤ N ∧ m = gh ∧ i ≤ 24 ∧ 17 ≤ i ∧ Hid (m < 10 ^ (i - 17)) ∧ s = .int .i64 m ∧ z = .int .i64 i ∧ wr.rowIs w.heap.size 34 24 (fun j => .int .u8 (b j : Nat)) ∧ digs N = digs m ++ (List.range (24 - i)).map (fun j => b (i + j)) ∧ Below w.heap.size w wr)
    case atStart =>
      refine ⟨N, 24, fun _ => 0, Nat.le_refl _, rfl, Nat.le_refl _, by omega, HN6, rfl, rfl, ?_, by simp, (Below.refl _ _).alloc (Nat.le_refl _) _⟩
      refine World.rowIs_alloc w _ 34 _ fun i hi => ?_
      simp only [List.size_toArray, List.length_cons, List.length_nil] at hi
      have : ∀ i, i < 24 → (#[Value.int .u8 0, .int .u8 0, .int .u8 0, .int .u8 0, .int .u8 0, .int .u8 0, .int .u8 0, .int .u8 0, .int .u8 0, .int .u8 0, .int .u8 0, .int .u8 0, .int .u8 0, .int .u8 0, .int .u8 0, .int .u8 0, .int .u8 0, .int .u8 0, .int .u8 0, .int .u8 0, .int .u8 0, .int .u8 0, .int .u8 0, .int .u8 0] : Array Value)[i]? = some (.int .u8 0) := by
        intro i hi
        rcases i with _ | _ | _ | _ | _ | _ | _ | _ | _ | _ | _ | _ | _ | _ | _ | _ | _ | _ | _ | _ | _ | _ | _ | _ | i <;> first | rfl | omega
      exact this i hi
    case round =>
      obtain ⟨m, i, b, hm, rfl, hi, hi17, hpw, rfl, rfl, hrow, hdg, hbel⟩ := hrel
      have HROW := Lib.hid hrow
      have HDG := Lib.hid hdg
      have HB := Lib.hid hbel
      clear hrow hdg hbel
      by_cases hpos : 0 < m
      · have hi18 : 17 < i := by
          rcases Nat.lt_or_ge 17 i with h | h
          · exact h
          · obtain rfl : i = 17 := by omega
            have := hpw.out
            simp at this
            omega
        have hi1 : (i : Int) - 1 = ((i - 1 : Nat) : Int) := by omega
        have hc := HROW.out.cell (i := i - 1) (by omega)
        have hz := HROW.out.frozen (i - 1)
        have hd48 : (48 + (m : Int) % 10) % 256 = ((48 + m % 10 : Nat) : Int) := by omega
        obtain ⟨i', rfl⟩ : ∃ i', i = i' + 1 := ⟨i - 1, by omega⟩
        simp only [Nat.add_sub_cancel] at hc hz hi1
        clear hi1
        go_wp2_with fail
        go_roundg (m / 10)
        case rel =>
          refine ⟨m / 10, i', fun j => if j = i' then 48 + m % 10 else b j, by omega, rfl, by omega, by omega, Lib.hid ?_, by go_num, rfl, (HROW.out.set i' _).congr (fun j hj => ?_), ?_, HB.out.setCell (Nat.le_refl _) _⟩
          · have := hpw.out
            rw [show i' + 1 - 17 = (i' - 17) + 1 by omega, Nat.pow_succ] at this
            exact Nat.div_lt_of_lt_mul (by omega)
          · by_cases e : j = i'
            · simp [e]
            · simp [e]
          · rw [HDG.out, digs_pos hpos, List.append_assoc]
            congr 1
            rw [show 24 - i' = (24 - (i' + 1)) + 1 by omega, List.range_succ_eq_map]
            simp only [List.map_cons, List.map_map, Nat.add_zero, if_pos, List.singleton_append, List.cons.injEq, true_and]
            refine List.map_congr_left fun j hj => ?_
            simp only [Function.comp]
            rw [if_neg (by omega), show i' + 1 + j = i' + Nat.succ j by omega]
        case measure => omega
      · obtain rfl : m = 0 := by omega
        have hi24 : i < 24 := by
          rcases Nat.lt_or_ge i 24 with h | h
          · exact h
          · have hd0 := HDG.out
            rw [digs_zero, show 24 - i = 0 by omega] at hd0
            exact absurd hd0 (by simpa using digs_ne h0)
        have hsl := slice24 w.heap.size i hi24
        have hcv := fun W (h : RowF W W.heap.size (some ⟨w.heap.size, i, none⟩) (24 - i) (fun j => .int .u8 ((b (i + j) : Nat) : Int))) => conv_row (P := Try.prog) (c := 24 - i) h 32 5 9 Try.underlying32 Try.underlying5 Try.underlying9
        have hrf : RowF wr wr.heap.size (some ⟨w.heap.size, i, none⟩) (24 - i) (fun j => .int .u8 ((b (i + j) : Nat) : Int)) := fun _ => ⟨w.heap.size, i, rfl, HROW.out.lt, fun j hj => HROW.out.cell (by omega)⟩
        have hcv' := hcv wr hrf
        have hbb : ∀ j, j < 24 → b j < 256 ∨ True := fun _ _ => .inr trivial
        have HS : Hid (strOfNums ((List.range (24 - i)).map fun j => ((b (i + j) : Nat) : Int)) = preS N) := Lib.hid (by
          refine bytes_ext ?_
          rw [strOfNums_data]
          have hd0 := HDG.out
          rw [digs_zero, List.nil_append] at hd0
          show _ = pre8 N
          unfold pre8 itoaL
          rw [if_neg (by omega), hd0]
          simp [by8])
        generalize strOfNums ((List.range (24 - i)).map fun j => ((b (i + j) : Nat) : Int)) = sx at *
        clear hcv hrf hbb
        go_wp2_with fail
        go_ret
        exact ⟨by rw [← HS.out]; rfl, HB.out⟩

/-- The text of an encoding as it grows. -/
theorem enc_next (f : Nat → ByteArray) (k : Nat) : bv (enc f k) ++ bv (pre8 (f k).size) ++ [Value.int .u8 58] ++ bv (f k).data.toList = bv (enc f (k + 1)) := by
  simp [bv, enc]
def encS (f : Nat → ByteArray) (n : Nat) : ByteArray := ⟨(enc f n).toArray⟩
theorem preS_size (n : Nat) : (preS n).size = (pre8 n).length := by simp [preS, ByteArray.size]

theorem own_below {w w' : World} {base e size n : Nat} {v : Value} {xs : List Value} (h : w.ownsRow base e size v n xs) (hb : Below w.heap.size w w') : w'.ownsRow base e size v n xs := by
  refine ⟨h.1, ?_⟩
  rcases h.2 with h0 | ⟨g, cap, cur, e1, e2, e3, r⟩
  · exact .inl h0
  · refine .inr ⟨g, cap, cur, e1, e2, ?_, r⟩
    have hl : g < w.heap.size := by
      rcases Nat.lt_or_ge g w.heap.size with hlt | hge
      · exact hlt
      · rw [Array.getElem?_eq_none hge] at e3; cases e3
    rw [hb.block g hl]; exact e3
theorem own_row {w : World} {base N : Nat} {v : Value} {l : List UInt8} (h : w.ownsRow base 5 1 v N (bv l)) : ∃ A c, v = .slice A N c ∧ RowF w w.heap.size A N (fun p => .int .u8 ((l.getD p 0).toNat : Int)) := by
  have hl : l.length = N := by have := h.1; rw [bv_length] at this; omega
  rcases h.2 with ⟨rfl, h0⟩ | ⟨g, cap, cur, rfl, hb, hh, _⟩
  · subst h0; exact ⟨none, 0, rfl, fun h => absurd h (by omega)⟩
  · refine ⟨_, cap, rfl, fun hp => ⟨g, 0, rfl, (h.lt g rfl).2, fun j hj => ?_⟩⟩
    have hjl : j < l.length := by omega
    have := h.cells (g := g) rfl j (.int .u8 (l[j].toNat : Int)) (by simp [bv, hjl])
    rw [add_flat] at this
    rw [this]
    simp [List.getD_eq_getElem?_getD, hjl]
set_option maxHeartbeats 1000000 in
theorem encode (A : Option Addr) (n c : Nat) (f : Nat → ByteArray) (w : World) (h : RowF w w.heap.size A n (fun i => .string (f i))) (hn : n + tot f n ≤ 1048576) : Calls Try.prog 9 #[.slice A n c] w fun e w' => e = .returned (.string (encS f n)) ∧ Below w.heap.size w w' := by
  have H := Lib.hid h
  obtain ⟨i0, hi, hz0, hz1, hz2⟩ := info_parts Try.info5
  have HI := Lib.hid hi
  have HZ0 := Lib.hid hz0
  have HZ1 := Lib.hid hz1
  have HZ2 := Lib.hid hz2
  clear h hi hz0 hz1 hz2
  go_enter Try.func9, Try.ntmps9
  go_wp2_with fail
  go_loopg [3, 4] n (fun g s z wr => ∃ k : Nat, k ≤ n ∧ g = n - k ∧ z = .int .i64 k ∧ wr.ownsRow w.heap.size 5 1 s (enc f k).length (bv (enc f k)) ∧ Below w.heap.size w wr)
  case atStart => exact ⟨0, Nat.zero_le _, rfl, rfl, World.ownsRow_made w #[] 0 (Nat.le_refl _) (Nat.zero_le _) rfl, (Below.refl _ _).alloc (Nat.le_refl _) _⟩
  case round =>
    obtain ⟨k, hk, rfl, rfl, ho, hb⟩ := hrel
    have HO := Lib.hid ho
    have HB := Lib.hid hb
    by_cases hlt : k < n
    · obtain ⟨b, o, rfl, hbb, hc⟩ := H.out.at_ hlt
      have hc' : wr.cell? ⟨b, o + k, none⟩ = some (.string (f k)) := (hb.cell (p := ⟨b, o + k, none⟩) hbb).trans hc
      have ht1 := tot_at f hlt
      have htm := tot_mono f hk
      have hel := enc_len (f := f) (n := k) (by omega)
      have hpl := pre8_len (n := (f k).size) (by omega)
      have hws := hb.size
      clear ho hb
      go_wp2_with fail
      refine (itoa (f k).size (by omega) _).mono ?_
      rintro e w1 ⟨rfl, hb1⟩
      have HO1 := Lib.hid (own_below HO.out hb1)
      have HB1 : Hid (Below w.heap.size w w1) := Lib.hid (HB.out.trans (hb1.mono HB.out.size))
      have hws1 := HB1.out.size
      clear hb1 HO HB hc'
      go_wp2_with (first
        | (at_builtin; refine Lib.wpList_append_own_string _ rfl (.tmp 12) (.tmp 18) 32 9 rfl w.heap.size 5 i0 Try.underlying32 Try.underlying9 HI.out HZ0.out HZ1.out HZ2.out _ _ _ rfl (by exact HO1.out) (preS (f k).size) rfl (by rw [preS_size]; unfold maxLen; omega) (by rw [preS_size]; omega) (by omega) ?_; intro v2 w2 hown2 hgr2 _; have HO2 := Lib.hid hown2; have HB2 : Hid (Below w.heap.size w w2) := Lib.hid (HB1.out.grown hgr2 (by omega) (fun q hq => (HO1.out.lt q hq).1)); have hws2 := HB2.out.size; clear hown2 hgr2 HB1 HO1)
        | (at_builtin; refine wpList_append_own _ rfl (.tmp 20) (.tmp 21) 32 rfl w.heap.size 5 i0 _ 1 1 Try.underlying32 HI.out HZ0.out HZ1.out HZ2.out rfl (by decide) _ _ _ rfl (by exact HO2.out.alloc _) ⟨w2.heap.size, 0, none⟩ 1 1 [.int .u8 58] rfl rfl (cell_one_new _ _ _) (by simp [Value.oneCell']) (by rw [preS_size]; unfold maxLen; omega) (by rw [preS_size]; omega) (by simp; omega) ?_; intro v3 w3 hown3 hgr3 _; have HO3 := Lib.hid hown3; have HB3 : Hid (Below w.heap.size w w3) := Lib.hid ((HB2.out.alloc hws2 _).grown hgr3 (by simp; omega) (fun q hq => (HO2.out.lt q hq).1)); have hws3 := HB3.out.size; have hc3 : w3.cell? ⟨b, o + k, none⟩ = some (.string (f k)) := (HB3.out.cell (p := ⟨b, o + k, none⟩) hbb).trans hc; clear hown3 hgr3 HB2 HO2)
        | (at_builtin; refine Lib.wpList_append_own_string _ rfl (.tmp 23) (.tmp 27) 32 9 rfl w.heap.size 5 i0 Try.underlying32 Try.underlying9 HI.out HZ0.out HZ1.out HZ2.out _ _ _ rfl (by exact HO3.out) (f k) rfl (by rw [preS_size]; unfold maxLen; omega) (by rw [preS_size]; omega) (by omega) ?_; intro v4 w4 hown4 hgr4 _; have HO4 := Lib.hid hown4; have HB4 : Hid (Below w.heap.size w w4) := Lib.hid (HB3.out.grown hgr4 (by omega) (fun q hq => (HO3.out.lt q hq).1)); clear hown4 hgr4 HB3 HO3 hc3))
      go_roundg (n - (k + 1))
      case rel =>
        refine ⟨k + 1, by omega, rfl, by go_num, ?_, HB4.out⟩
        have h4 := HO4.out
        have e1 : Lib.strCells (preS (f k).size) = bv (pre8 (f k).size) := by simp [bv_str, preS]
        rw [e1, bv_str, enc_next] at h4
        have e2 : (enc f k).length + (preS (f k).size).size + 1 + (f k).size = (enc f (k + 1)).length := by
          rw [preS_size]
          simp only [enc, List.length_append, List.length_cons, List.length_nil, Array.length_toList]
          have h5 : (f k).data.size = (f k).size := rfl
          omega
        rw [e2] at h4
        exact h4
      case measure => omega
    · have hkn : k = n := by omega
      subst hkn
      clear ho hb
      obtain ⟨A', c', hv, hr⟩ := own_row HO.out
      subst hv
      have hcv := conv_row (P := Try.prog) (c := c') hr 32 5 9 Try.underlying32 Try.underlying5 Try.underlying9
      have HS : Hid (strOfNums ((List.range (enc f k).length).map fun p => (((enc f k).getD p 0).toNat : Int)) = encS f k) := Lib.hid (by
        refine bytes_ext ?_
        rw [strOfNums_data]
        show _ = enc f k
        refine List.ext_getElem (by simp) fun i h1 h2 => ?_
        simp [List.getD_eq_getElem?_getD, h2])
      generalize strOfNums ((List.range (enc f k).length).map fun p => (((enc f k).getD p 0).toNat : Int)) = sx at *
      clear hr
      go_wp2_with fail
      go_ret
      exact ⟨by rw [← HS.out]; rfl, HB.out⟩
end Go.Proofs.Ytnifibidbldneaa
