/- The walk of zzQuoteASCII: the quoted form, byte by byte. -/
import Derived.Test.YtcjbnieeoggfkaaFmtQw
import Derived.StillTail
import Derived.StillTailTactics
import Derived.Deep.LoopGhost
import Derived.OwnWalk
namespace Go.Proofs.YtcjbnieeoggfkaaFmt
open Go Go.RowKit
set_option linter.unusedVariables false
set_option linter.unusedSimpArgs false

section
variable {P : Program} {ops : Array Oper} {md : Region.Mode}
def wpHead (P : Program) (ops : Array Oper) (L : Act → Prop) : List Oper → Act → Prop
  | [], a => L a
  | o :: rest, a => ∃ v, Yields P ops o v a ∧ wpHead P ops L rest (a.put o.dst v)
theorem wpHead_nil {L : Act → Prop} {a : Act} (h : L a) : wpHead P ops L [] a := h
theorem wpHead_step {L : Act → Prop} {a : Act} {o : Oper} {rest : List Oper} {v : Value} (hw : Region.wanted o (yielded ops a.tmps) = true) (hy : ∀ w, (execOp a.eval o).run P w = .ok (.value v) w)
    (h : wpHead P ops L rest (a.put o.dst v)) : wpHead P ops L (o :: rest) a := ⟨v, .inl ⟨hw, hy⟩, h⟩
theorem wpAny_of_wpHead {n g : Nat} {L : Act → Prop} {Q : Exit → Act → World → Prop} {w : World} (hsel : Region.noSelect ops = true) (hQ : ∀ c d v a w, Q (.panic c) (a.put d v) w → Q (.panic c) a w)
    (hL : ∀ listed a, Region.seqB md ops g n listed = true → L a → wpAny P md ops Q g listed a w) :
    ∀ (l : List Oper) (k : Nat) (listed : Array Bool) (a : Act), (∀ j, j < l.length → l[j]? = ops[k + j]?) → k + l.length = n → Region.lexHead md ops g l.length k listed = true → wpHead P ops L l a →
    wpAny P md ops Q (l.length + g) listed a w
  | [], k, listed, a, _, hk, hB, h => by
    have : k = n := by simpa using hk
    subst this
    rw [List.length_nil, Nat.zero_add]
    exact hL listed a (by simpa [Region.lexHead] using hB) h
  | o :: l, k, listed, a, hl, hk, hB, h => by
    have h0 : ops[k]? = some o := by simpa using (hl 0 (by simp)).symm
    simp only [List.length_cons, Region.lexHead, Bool.and_eq_true] at hB
    obtain ⟨⟨hr, hf⟩, hB'⟩ := hB
    obtain ⟨v, hy, hK⟩ := h
    rw [List.length_cons, show l.length + 1 + g = (l.length + g) + 1 by omega]
    exact wpAny_take h0 hsel hf hr (fun c a w => hQ c o.dst v a w) hy
      (wpAny_of_wpHead hsel hQ hL l (k + 1) _ _ (fun j hj => by have := hl (j + 1) (by simp; omega); simpa [Nat.add_assoc, Nat.add_comm 1 j] using this) (by simp only [List.length_cons] at hk; omega) hB' hK)
theorem wp_region_head {id : Nat} {Q : Exit → Act → World → Prop} {a : Act} {w : World} {l : List Oper} (n : Nat) (hm : P.follows .mixedOrders = true)
    (hB : (Region.noSelect l.toArray && decide (n < l.toArray.size) && Region.lexHead .any l.toArray (l.toArray.size - n) n 0 (Array.replicate l.toArray.size false)) = true)
    (hQ : ∀ c d v a w, Q (.panic c) (a.put d v) w → Q (.panic c) a w)
    (h : wpHead P l.toArray (fun a' => wpList P l.toArray Q (l.drop n) a' { w with drawn := w.drawn + 1 }) (l.take n) a) : (Code.region id l.toArray true).wp P Q a w := by
  simp only [Bool.and_eq_true, decide_eq_true_eq] at hB
  obtain ⟨⟨hsel, hn⟩, hlex⟩ := hB
  have hn' : n < l.length := by simpa using hn
  have htl : (l.take n).length = n := by simp; omega
  have hdl : (l.drop n).length = l.toArray.size - n := by simp
  refine wp_region_any hm ?_
  have := wpAny_of_wpHead (md := .any) (n := n) (g := l.toArray.size - n) (w := { w with drawn := w.drawn + 1 }) hsel hQ (fun listed a' hs hL => by
    have := wpAny_of_seq (md := .any) (Q' := Q) (l.drop n) n listed a' { w with drawn := w.drawn + 1 } (fun j => by simp [List.getElem?_drop]) (by rw [hdl]; exact hs) hL
    rwa [hdl] at this) (l.take n) 0 (Array.replicate l.toArray.size false) a (fun j hj => by
      have hj' : j < n := by rw [htl] at hj; exact hj
      simp [hj']) (by simpa using htl) (by rw [htl]; exact hlex) h
  rw [htl, show n + (l.toArray.size - n) = l.toArray.size by omega] at this
  exact this
end

def bv (l : List UInt8) : List Value := l.map fun b => .int .u8 (b.toNat : Int)
theorem bv_length (l : List UInt8) : (bv l).length = l.length := by simp [bv]
theorem bv_append (l m : List UInt8) : bv (l ++ m) = bv l ++ bv m := by simp [bv]
theorem bv_str (s : ByteArray) : Lib.strCells s = bv s.data.toList := rfl
theorem cells_new (w : World) (cs : Array Value) (t : TypeId) : ∀ j u, cs.toList[j]? = some u → (w.alloc (.cells cs t)).cell? ((⟨w.heap.size, 0, none⟩ : Addr).add j) = some u := by
  intro j u hu
  rw [add_flat, Nat.zero_add, Lib.cell_of_heap (heap_alloc_new w _)]
  simpa using hu
def hexd (d : Nat) : UInt8 := if d < 10 then UInt8.ofNat (48 + d) else UInt8.ofNat (87 + d)
theorem hexGet (d : Nat) (h : d < (⟨#[48, 49, 50, 51, 52, 53, 54, 55, 56, 57, 97, 98, 99, 100, 101, 102]⟩ : ByteArray).size) : ((⟨#[48, 49, 50, 51, 52, 53, 54, 55, 56, 57, 97, 98, 99, 100, 101, 102]⟩ : ByteArray)[d]'h).toNat = (hexd d).toNat := by
  have h' : d < 16 := h
  rcases (show d = 0 ∨ d = 1 ∨ d = 2 ∨ d = 3 ∨ d = 4 ∨ d = 5 ∨ d = 6 ∨ d = 7 ∨ d = 8 ∨ d = 9 ∨ d = 10 ∨ d = 11 ∨ d = 12 ∨ d = 13 ∨ d = 14 ∨ d = 15 by omega) with rfl | rfl | rfl | rfl | rfl | rfl | rfl | rfl | rfl | rfl | rfl | rfl | rfl | rfl | rfl | rfl
  all_goals rfl
def escN (c : Nat) : List UInt8 := esc (UInt8.ofNat c)
theorem escN_plain {c : Nat} (h0 : 32 ≤ c) (h1 : c ≤ 126) (h2 : c ≠ 34) (h3 : c ≠ 92) : bv (escN c) = [.int .u8 (c : Int)] ∧ (escN c).length = 1 := by
  have h : (List.range 128).all (fun c => decide (32 ≤ c → c ≤ 126 → c ≠ 34 → c ≠ 92 → escN c = [UInt8.ofNat c] ∧ (UInt8.ofNat c).toNat = c)) = true := by decide +kernel
  have := List.all_eq_true.1 h c (List.mem_range.2 (by omega))
  simp only [decide_eq_true_eq] at this
  obtain ⟨a, b⟩ := this h0 h1 h2 h3
  rw [a]; simp [bv, b]
theorem escN_hex {c : Nat} (h : c < 32 ∨ c = 127) (h7 : c ≠ 7) (h8 : c ≠ 8) (h12 : c ≠ 12) (h10 : c ≠ 10) (h13 : c ≠ 13) (h9 : c ≠ 9) (h11 : c ≠ 11) : escN c = [92, 120, hexd (c / 16), hexd (c % 16)] := by
  have h : (List.range 128).all (fun c => decide ((c < 32 ∨ c = 127) → c ≠ 7 → c ≠ 8 → c ≠ 12 → c ≠ 10 → c ≠ 13 → c ≠ 9 → c ≠ 11 → escN c = [92, 120, hexd (c / 16), hexd (c % 16)])) = true := by decide +kernel
  have := List.all_eq_true.1 h c (List.mem_range.2 (by omega))
  simp only [decide_eq_true_eq] at this
  exact this ‹_› h7 h8 h12 h10 h13 h9 h11
theorem and15u : ∀ c : Nat, c < 128 → bits .and .u8 (c : Int) 15 = ((c % 16 : Nat) : Int) := by
  have h : (List.range 128).all (fun c => decide (bits .and .u8 (c : Int) 15 = ((c % 16 : Nat) : Int))) = true := by decide +kernel
  intro c hc
  have := List.all_eq_true.1 h c (List.mem_range.2 hc)
  simpa using this
theorem escs_take (s : ByteArray) (k : Nat) (hk : k < s.size) (c : Nat) (hc : (s[k]'hk).toNat = c) : escs (s.data.toList.take (k + 1)) = escs (s.data.toList.take k) ++ escN c := by
  have hl : k < s.data.toList.length := by simpa using hk
  rw [List.take_succ_eq_append_getElem hl]
  unfold escs escN
  rw [List.flatMap_append]
  congr 1
  have : s.data.toList[k] = UInt8.ofNat c := by
    rw [← hc, UInt8.ofNat_toNat]
    simp
    rfl
  rw [this]
  simp
theorem ascii_at (s : ByteArray) (hs : Asc s) (k : Nat) (hk : k < s.size) : (s[k]'hk).toNat < 128 := by
  have h := UInt8.lt_iff_toNat_lt.1 (hs k hk)
  rw [get_bang s k hk] at h
  have e : s[k]'hk = s.data.toList[k]'(by simpa using hk) := by simp; rfl
  rw [e]; exact h
theorem own_row {w : World} {base N : Nat} {v : Value} {l : List UInt8} (h : w.ownsRow base 5 1 v N (bv l)) : ∃ A c, v = .slice A N c ∧ RowF w w.heap.size A N (fun p => .int .u8 ((l.getD p 0).toNat : Int)) := by
  have hl : l.length = N := by have := h.1; rw [bv_length] at this; omega
  rcases h.2 with ⟨rfl, h0⟩ | ⟨g, cap, cur, rfl, hb, hh, _⟩
  · subst h0; exact ⟨none, 0, rfl, fun h => absurd h (by omega)⟩
  · refine ⟨_, cap, rfl, fun hp => ⟨g, 0, rfl, (h.lt g rfl).2, fun j hj => ?_⟩⟩
    have hjl : j < l.length := by omega
    have := h.cells (g := g) rfl j (.int .u8 (l[j].toNat : Int)) (by simp [bv, hjl])
    rw [add_flat] at this
    rw [this]
    simp [List.getD_eq_getElem?_getD, hjl]
theorem own_below {w w' : World} {base e size n : Nat} {v : Value} {xs : List Value} (h : w.ownsRow base e size v n xs) (hb : Below w.heap.size w w') : w'.ownsRow base e size v n xs := by
  refine ⟨h.1, ?_⟩
  rcases h.2 with h0 | ⟨g, cap, cur, e1, e2, e3, r⟩
  · exact .inl h0
  · refine .inr ⟨g, cap, cur, e1, e2, ?_, r⟩
    have hl : g < w.heap.size := by
      rcases Nat.lt_or_ge g w.heap.size with hlt | hge
      · exact hlt
      · rw [Array.getElem?_eq_none hge] at e3; cases e3
    rw [hb.block g hl]; exact e3
theorem bytes_ext {a b : ByteArray} (h : a.data.toList = b.data.toList) : a = b := by
  cases a; cases b
  simp at h
  rw [h]
theorem text_of (L : List UInt8) : strOfNums ((List.range L.length).map fun p => ((L.getD p 0).toNat : Int)) = ⟨L.toArray⟩ := by
  refine bytes_ext ?_
  rw [strOfNums_data]
  show _ = L
  refine List.ext_getElem (by simp) fun i h1 h2 => ?_
  simp [List.getD_eq_getElem?_getD, h2]

set_option maxHeartbeats 8000000 in
set_option maxRecDepth 100000 in
theorem quoteA (s : ByteArray) (hs : Asc s) (hl : s.size ≤ 1048576) (w : World) : Calls Tryf.prog 13 #[.string s] w fun e w' => e = .returned (.string ⟨(quo s).toArray⟩) ∧ Below w.heap.size w w' := by
  have HS := Lib.hid hs
  obtain ⟨i0, hi, hz0, hz1, hz2⟩ := info_parts Tryf.info5
  have HI := Lib.hid hi
  have HZ0 := Lib.hid hz0
  have HZ1 := Lib.hid hz1
  have HZ2 := Lib.hid hz2
  clear hs hi hz0 hz1 hz2
  go_enter Tryf.func13, Tryf.ntmps13
  go_wp2_with fail
  go_loopg [3, 4] s.size (fun g v z wr => ∃ (k : Nat) (L : List UInt8), k ≤ s.size ∧ g = s.size - k ∧ z = .int .i64 k ∧ Hid (L = 34 :: escs (s.data.toList.take k)) ∧ L.length ≤ 1 + 4 * k ∧ wr.ownsRow w.heap.size 5 1 v L.length (bv L) ∧ Below w.heap.size w wr)
  case atStart => exact ⟨0, [34], Nat.zero_le _, rfl, rfl, Lib.hid (by simp [escs]), by simp, World.ownsRow_lit w #[.int .u8 34] 1 (Nat.le_refl _) (by decide) rfl, (Below.refl _ _).alloc (Nat.le_refl _) _⟩
  case round =>
    obtain ⟨k, L, hk, rfl, rfl, HL, hLl, ho, hb⟩ := hrel
    have HOWN := Lib.hid ho
    have HB := Lib.hid hb
    have hws := hb.size
    clear ho hb
    by_cases hlt : k < s.size
    · have hc128 := ascii_at s HS.out k hlt
      obtain ⟨c, hcc⟩ : ∃ c, (s[k]'hlt).toNat = c := ⟨_, rfl⟩
      rw [hcc] at hc128
      have HCC := Lib.hid hcc
      have hLs : L.length ≤ 4194305 := by omega
      by_cases h34 : c = 34
      · subst h34
        go_wp2_with (at_builtin; refine wpList_append_own _ rfl (.tmp 22) (.tmp 24) 28 rfl w.heap.size 5 i0 (.int .u8 0) 1 1 Tryf.underlying28 HI.out HZ0.out HZ1.out HZ2.out rfl (by decide) _ _ _ rfl (HOWN.out.alloc _) ⟨wr.heap.size, 0, none⟩ 2 2 [.int .u8 92, .int .u8 34] rfl rfl (cells_new wr #[.int .u8 92, .int .u8 34] 5) (by simp [Value.oneCell']) (by unfold maxLen; omega) (by omega) (by simp; omega) ?_)
        intro v2 w2 hown2 hgr2 _
        have hown3 : w2.ownsRow w.heap.size 5 1 v2 (L ++ escN 34).length (bv (L ++ escN 34)) := by
          rw [bv_append, List.length_append, show (escN 34).length = 2 from rfl, show bv (escN 34) = [.int .u8 92, .int .u8 34] from rfl]
          exact hown2
        have HO3 := Lib.hid hown3
        have HB3 : Hid (Below w.heap.size w w2) := Lib.hid ((HB.out.alloc hws _).grown hgr2 (by simp; omega) (fun q hq => (HOWN.out.lt q hq).1))
        clear hown2 hgr2 hown3
        go_wp2_with fail
        go_roundg (s.size - (k + 1))
        case rel => exact ⟨k + 1, L ++ escN 34, by omega, by omega, by go_num, Lib.hid (by rw [HL.out, escs_take s k hlt 34 HCC.out]; rfl), by have h5 := esc_len (UInt8.ofNat 34); have h6 : (escN 34).length ≤ 4 := h5; rw [List.length_append]; omega, HO3.out, HB3.out⟩
        case measure => omega
      by_cases h92 : c = 92
      · subst h92
        go_wp2_with (at_builtin; refine wpList_append_own _ rfl (.tmp 22) (.tmp 24) 28 rfl w.heap.size 5 i0 (.int .u8 0) 1 1 Tryf.underlying28 HI.out HZ0.out HZ1.out HZ2.out rfl (by decide) _ _ _ rfl (HOWN.out.alloc _) ⟨wr.heap.size, 0, none⟩ 2 2 [.int .u8 92, .int .u8 92] rfl rfl (cells_new wr #[.int .u8 92, .int .u8 92] 5) (by simp [Value.oneCell']) (by unfold maxLen; omega) (by omega) (by simp; omega) ?_)
        intro v2 w2 hown2 hgr2 _
        have hown3 : w2.ownsRow w.heap.size 5 1 v2 (L ++ escN 92).length (bv (L ++ escN 92)) := by
          rw [bv_append, List.length_append, show (escN 92).length = 2 from rfl, show bv (escN 92) = [.int .u8 92, .int .u8 92] from rfl]
          exact hown2
        have HO3 := Lib.hid hown3
        have HB3 : Hid (Below w.heap.size w w2) := Lib.hid ((HB.out.alloc hws _).grown hgr2 (by simp; omega) (fun q hq => (HOWN.out.lt q hq).1))
        clear hown2 hgr2 hown3
        go_wp2_with fail
        go_roundg (s.size - (k + 1))
        case rel => exact ⟨k + 1, L ++ escN 92, by omega, by omega, by go_num, Lib.hid (by rw [HL.out, escs_take s k hlt 92 HCC.out]; rfl), by have h5 := esc_len (UInt8.ofNat 92); have h6 : (escN 92).length ≤ 4 := h5; rw [List.length_append]; omega, HO3.out, HB3.out⟩
        case measure => omega
      by_cases h7 : c = 7
      · subst h7
        go_wp2_with (at_builtin; refine wpList_append_own _ rfl (.tmp 38) (.tmp 39) 28 rfl w.heap.size 5 i0 (.int .u8 0) 1 1 Tryf.underlying28 HI.out HZ0.out HZ1.out HZ2.out rfl (by decide) _ _ _ rfl (HOWN.out.alloc _) ⟨wr.heap.size, 0, none⟩ 2 2 [.int .u8 92, .int .u8 97] rfl rfl (cells_new wr #[.int .u8 92, .int .u8 97] 5) (by simp [Value.oneCell']) (by unfold maxLen; omega) (by omega) (by simp; omega) ?_)
        intro v2 w2 hown2 hgr2 _
        have hown3 : w2.ownsRow w.heap.size 5 1 v2 (L ++ escN 7).length (bv (L ++ escN 7)) := by
          rw [bv_append, List.length_append, show (escN 7).length = 2 from rfl, show bv (escN 7) = [.int .u8 92, .int .u8 97] from rfl]
          exact hown2
        have HO3 := Lib.hid hown3
        have HB3 : Hid (Below w.heap.size w w2) := Lib.hid ((HB.out.alloc hws _).grown hgr2 (by simp; omega) (fun q hq => (HOWN.out.lt q hq).1))
        clear hown2 hgr2 hown3
        go_wp2_with fail
        go_roundg (s.size - (k + 1))
        case rel => exact ⟨k + 1, L ++ escN 7, by omega, by omega, by go_num, Lib.hid (by rw [HL.out, escs_take s k hlt 7 HCC.out]; rfl), by have h5 := esc_len (UInt8.ofNat 7); have h6 : (escN 7).length ≤ 4 := h5; rw [List.length_append]; omega, HO3.out, HB3.out⟩
        case measure => omega
      by_cases h8 : c = 8
      · subst h8
        go_wp2_with (at_builtin; refine wpList_append_own _ rfl (.tmp 43) (.tmp 44) 28 rfl w.heap.size 5 i0 (.int .u8 0) 1 1 Tryf.underlying28 HI.out HZ0.out HZ1.out HZ2.out rfl (by decide) _ _ _ rfl (HOWN.out.alloc _) ⟨wr.heap.size, 0, none⟩ 2 2 [.int .u8 92, .int .u8 98] rfl rfl (cells_new wr #[.int .u8 92, .int .u8 98] 5) (by simp [Value.oneCell']) (by unfold maxLen; omega) (by omega) (by simp; omega) ?_)
        intro v2 w2 hown2 hgr2 _
        have hown3 : w2.ownsRow w.heap.size 5 1 v2 (L ++ escN 8).length (bv (L ++ escN 8)) := by
          rw [bv_append, List.length_append, show (escN 8).length = 2 from rfl, show bv (escN 8) = [.int .u8 92, .int .u8 98] from rfl]
          exact hown2
        have HO3 := Lib.hid hown3
        have HB3 : Hid (Below w.heap.size w w2) := Lib.hid ((HB.out.alloc hws _).grown hgr2 (by simp; omega) (fun q hq => (HOWN.out.lt q hq).1))
        clear hown2 hgr2 hown3
        go_wp2_with fail
        go_roundg (s.size - (k + 1))
        case rel => exact ⟨k + 1, L ++ escN 8, by omega, by omega, by go_num, Lib.hid (by rw [HL.out, escs_take s k hlt 8 HCC.out]; rfl), by have h5 := esc_len (UInt8.ofNat 8); have h6 : (escN 8).length ≤ 4 := h5; rw [List.length_append]; omega, HO3.out, HB3.out⟩
        case measure => omega
      by_cases h12 : c = 12
      · subst h12
        go_wp2_with (at_builtin; refine wpList_append_own _ rfl (.tmp 48) (.tmp 49) 28 rfl w.heap.size 5 i0 (.int .u8 0) 1 1 Tryf.underlying28 HI.out HZ0.out HZ1.out HZ2.out rfl (by decide) _ _ _ rfl (HOWN.out.alloc _) ⟨wr.heap.size, 0, none⟩ 2 2 [.int .u8 92, .int .u8 102] rfl rfl (cells_new wr #[.int .u8 92, .int .u8 102] 5) (by simp [Value.oneCell']) (by unfold maxLen; omega) (by omega) (by simp; omega) ?_)
        intro v2 w2 hown2 hgr2 _
        have hown3 : w2.ownsRow w.heap.size 5 1 v2 (L ++ escN 12).length (bv (L ++ escN 12)) := by
          rw [bv_append, List.length_append, show (escN 12).length = 2 from rfl, show bv (escN 12) = [.int .u8 92, .int .u8 102] from rfl]
          exact hown2
        have HO3 := Lib.hid hown3
        have HB3 : Hid (Below w.heap.size w w2) := Lib.hid ((HB.out.alloc hws _).grown hgr2 (by simp; omega) (fun q hq => (HOWN.out.lt q hq).1))
        clear hown2 hgr2 hown3
        go_wp2_with fail
        go_roundg (s.size - (k + 1))
        case rel => exact ⟨k + 1, L ++ escN 12, by omega, by omega, by go_num, Lib.hid (by rw [HL.out, escs_take s k hlt 12 HCC.out]; rfl), by have h5 := esc_len (UInt8.ofNat 12); have h6 : (escN 12).length ≤ 4 := h5; rw [List.length_append]; omega, HO3.out, HB3.out⟩
        case measure => omega
      by_cases h10 : c = 10
      · subst h10
        go_wp2_with (at_builtin; refine wpList_append_own _ rfl (.tmp 53) (.tmp 54) 28 rfl w.heap.size 5 i0 (.int .u8 0) 1 1 Tryf.underlying28 HI.out HZ0.out HZ1.out HZ2.out rfl (by decide) _ _ _ rfl (HOWN.out.alloc _) ⟨wr.heap.size, 0, none⟩ 2 2 [.int .u8 92, .int .u8 110] rfl rfl (cells_new wr #[.int .u8 92, .int .u8 110] 5) (by simp [Value.oneCell']) (by unfold maxLen; omega) (by omega) (by simp; omega) ?_)
        intro v2 w2 hown2 hgr2 _
        have hown3 : w2.ownsRow w.heap.size 5 1 v2 (L ++ escN 10).length (bv (L ++ escN 10)) := by
          rw [bv_append, List.length_append, show (escN 10).length = 2 from rfl, show bv (escN 10) = [.int .u8 92, .int .u8 110] from rfl]
          exact hown2
        have HO3 := Lib.hid hown3
        have HB3 : Hid (Below w.heap.size w w2) := Lib.hid ((HB.out.alloc hws _).grown hgr2 (by simp; omega) (fun q hq => (HOWN.out.lt q hq).1))
        clear hown2 hgr2 hown3
        go_wp2_with fail
        go_roundg (s.size - (k + 1))
        case rel => exact ⟨k + 1, L ++ escN 10, by omega, by omega, by go_num, Lib.hid (by rw [HL.out, escs_take s k hlt 10 HCC.out]; rfl), by have h5 := esc_len (UInt8.ofNat 10); have h6 : (escN 10).length ≤ 4 := h5; rw [List.length_append]; omega, HO3.out, HB3.out⟩
        case measure => omega
      by_cases h13 : c = 13
      · subst h13
        go_wp2_with (at_builtin; refine wpList_append_own _ rfl (.tmp 58) (.tmp 59) 28 rfl w.heap.size 5 i0 (.int .u8 0) 1 1 Tryf.underlying28 HI.out HZ0.out HZ1.out HZ2.out rfl (by decide) _ _ _ rfl (HOWN.out.alloc _) ⟨wr.heap.size, 0, none⟩ 2 2 [.int .u8 92, .int .u8 114] rfl rfl (cells_new wr #[.int .u8 92, .int .u8 114] 5) (by simp [Value.oneCell']) (by unfold maxLen; omega) (by omega) (by simp; omega) ?_)
        intro v2 w2 hown2 hgr2 _
        have hown3 : w2.ownsRow w.heap.size 5 1 v2 (L ++ escN 13).length (bv (L ++ escN 13)) := by
          rw [bv_append, List.length_append, show (escN 13).length = 2 from rfl, show bv (escN 13) = [.int .u8 92, .int .u8 114] from rfl]
          exact hown2
        have HO3 := Lib.hid hown3
        have HB3 : Hid (Below w.heap.size w w2) := Lib.hid ((HB.out.alloc hws _).grown hgr2 (by simp; omega) (fun q hq => (HOWN.out.lt q hq).1))
        clear hown2 hgr2 hown3
        go_wp2_with fail
        go_roundg (s.size - (k + 1))
        case rel => exact ⟨k + 1, L ++ escN 13, by omega, by omega, by go_num, Lib.hid (by rw [HL.out, escs_take s k hlt 13 HCC.out]; rfl), by have h5 := esc_len (UInt8.ofNat 13); have h6 : (escN 13).length ≤ 4 := h5; rw [List.length_append]; omega, HO3.out, HB3.out⟩
        case measure => omega
      by_cases h9 : c = 9
      · subst h9
        go_wp2_with (at_builtin; refine wpList_append_own _ rfl (.tmp 63) (.tmp 64) 28 rfl w.heap.size 5 i0 (.int .u8 0) 1 1 Tryf.underlying28 HI.out HZ0.out HZ1.out HZ2.out rfl (by decide) _ _ _ rfl (HOWN.out.alloc _) ⟨wr.heap.size, 0, none⟩ 2 2 [.int .u8 92, .int .u8 116] rfl rfl (cells_new wr #[.int .u8 92, .int .u8 116] 5) (by simp [Value.oneCell']) (by unfold maxLen; omega) (by omega) (by simp; omega) ?_)
        intro v2 w2 hown2 hgr2 _
        have hown3 : w2.ownsRow w.heap.size 5 1 v2 (L ++ escN 9).length (bv (L ++ escN 9)) := by
          rw [bv_append, List.length_append, show (escN 9).length = 2 from rfl, show bv (escN 9) = [.int .u8 92, .int .u8 116] from rfl]
          exact hown2
        have HO3 := Lib.hid hown3
        have HB3 : Hid (Below w.heap.size w w2) := Lib.hid ((HB.out.alloc hws _).grown hgr2 (by simp; omega) (fun q hq => (HOWN.out.lt q hq).1))
        clear hown2 hgr2 hown3
        go_wp2_with fail
        go_roundg (s.size - (k + 1))
        case rel => exact ⟨k + 1, L ++ escN 9, by omega, by omega, by go_num, Lib.hid (by rw [HL.out, escs_take s k hlt 9 HCC.out]; rfl), by have h5 := esc_len (UInt8.ofNat 9); have h6 : (escN 9).length ≤ 4 := h5; rw [List.length_append]; omega, HO3.out, HB3.out⟩
        case measure => omega
      by_cases h11 : c = 11
      · subst h11
        go_wp2_with (at_builtin; refine wpList_append_own _ rfl (.tmp 68) (.tmp 69) 28 rfl w.heap.size 5 i0 (.int .u8 0) 1 1 Tryf.underlying28 HI.out HZ0.out HZ1.out HZ2.out rfl (by decide) _ _ _ rfl (HOWN.out.alloc _) ⟨wr.heap.size, 0, none⟩ 2 2 [.int .u8 92, .int .u8 118] rfl rfl (cells_new wr #[.int .u8 92, .int .u8 118] 5) (by simp [Value.oneCell']) (by unfold maxLen; omega) (by omega) (by simp; omega) ?_)
        intro v2 w2 hown2 hgr2 _
        have hown3 : w2.ownsRow w.heap.size 5 1 v2 (L ++ escN 11).length (bv (L ++ escN 11)) := by
          rw [bv_append, List.length_append, show (escN 11).length = 2 from rfl, show bv (escN 11) = [.int .u8 92, .int .u8 118] from rfl]
          exact hown2
        have HO3 := Lib.hid hown3
        have HB3 : Hid (Below w.heap.size w w2) := Lib.hid ((HB.out.alloc hws _).grown hgr2 (by simp; omega) (fun q hq => (HOWN.out.lt q hq).1))
        clear hown2 hgr2 hown3
        go_wp2_with fail
        go_roundg (s.size - (k + 1))
        case rel => exact ⟨k + 1, L ++ escN 11, by omega, by omega, by go_num, Lib.hid (by rw [HL.out, escs_take s k hlt 11 HCC.out]; rfl), by have h5 := esc_len (UInt8.ofNat 11); have h6 : (escN 11).length ≤ 4 := h5; rw [List.length_append]; omega, HO3.out, HB3.out⟩
        case measure => omega
      have f34 : ((c : Int) == 34) = false := by simp; omega
      have f92 : ((c : Int) == 92) = false := by simp; omega
      by_cases hpr : 32 ≤ c ∧ c ≤ 126
      · obtain ⟨hp1, hp2⟩ := hpr
        obtain ⟨eb, el⟩ := escN_plain hp1 hp2 h34 h92
        go_wp2_with (at_builtin; refine wpList_append_own _ rfl (.tmp 32) (.tmp 34) 28 rfl w.heap.size 5 i0 (.int .u8 0) 1 1 Tryf.underlying28 HI.out HZ0.out HZ1.out HZ2.out rfl (by decide) _ _ _ rfl (HOWN.out.alloc _) ⟨wr.heap.size, 0, none⟩ 1 1 [.int .u8 (c : Int)] rfl rfl (cells_new wr #[.int .u8 (c : Int)] 5) (by simp [Value.oneCell']) (by unfold maxLen; omega) (by omega) (by simp; omega) ?_)
        intro v2 w2 hown2 hgr2 _
        have hown3 : w2.ownsRow w.heap.size 5 1 v2 (L ++ escN c).length (bv (L ++ escN c)) := by
          rw [bv_append, List.length_append, el, eb]
          exact hown2
        have HO3 := Lib.hid hown3
        have HB3 : Hid (Below w.heap.size w w2) := Lib.hid ((HB.out.alloc hws _).grown hgr2 (by simp; omega) (fun q hq => (HOWN.out.lt q hq).1))
        clear hown2 hgr2 hown3
        go_wp2_with fail
        go_roundg (s.size - (k + 1))
        case rel => exact ⟨k + 1, L ++ escN c, by omega, by omega, by go_num, Lib.hid (by rw [HL.out, escs_take s k hlt c HCC.out]; rfl), by have h5 := esc_len (UInt8.ofNat c); have h6 : (escN c).length ≤ 4 := h5; rw [List.length_append]; omega, HO3.out, HB3.out⟩
        case measure => omega
      · have hpr' : ¬ (32 ≤ c) ∨ ¬ (c ≤ 126) := by omega
        have f7 : ((c : Int) == 7) = false := by simp; omega
        have f8 : ((c : Int) == 8) = false := by simp; omega
        have f12 : ((c : Int) == 12) = false := by simp; omega
        have f10 : ((c : Int) == 10) = false := by simp; omega
        have f13 : ((c : Int) == 13) = false := by simp; omega
        have f9 : ((c : Int) == 9) = false := by simp; omega
        have f11 : ((c : Int) == 11) = false := by simp; omega
        have he := escN_hex (c := c) (by omega) h7 h8 h12 h10 h13 h9 h11
        have HE := Lib.hid he
        clear he
        obtain ⟨d1, hxd1, hld1, hrd1⟩ : ∃ d : Nat, (c : Int) / 16 = (d : Int) ∧ (d : Int) < 16 ∧ Hid (c / 16 = d) := ⟨c / 16, by omega, by omega, Lib.hid rfl⟩
        obtain ⟨d2, hxd2, hld2, hrd2⟩ : ∃ d : Nat, bits .and .u8 (c : Int) 15 = (d : Int) ∧ (d : Int) < 16 ∧ Hid (c % 16 = d) := ⟨c % 16, and15u c hc128, by omega, Lib.hid rfl⟩
        have HV : Hid (bv (escN c) = [.int .u8 92, .int .u8 120, .int .u8 ((hexd d1).toNat : Int), .int .u8 ((hexd d2).toNat : Int)]) := Lib.hid (by rw [HE.out, hrd1.out, hrd2.out]; rfl)
        have HVL : Hid ((escN c).length = 4) := Lib.hid (by rw [HE.out]; rfl)
        rcases (show c < 32 ∨ (126 < c ∧ 32 ≤ c) by omega) with hlo | ⟨hhi, hhj⟩
        all_goals
          as_aux_lemma =>
            go_wp2_with fail
            have HOWN3 := Lib.hid (HOWN.out.drew)
            have HB3 : Hid (Below w.heap.size w wr.drew) := Lib.hid ⟨HB.out.os, HB.out.tape, HB.out.output, HB.out.size, HB.out.block⟩
            have hw3 : w.heap.size ≤ wr.drew.heap.size := hws
            refine wp_region_head 7 (by kernel_rfl) (by kernel_rfl) (fun _ d _ _ _ h => by cases d <;> exact h) ?_
            simp only [List.take_succ_cons, List.take_zero, List.drop_succ_cons, List.drop_zero]
            iterate 7 (apply wpHead_step; rfl; (intro _; go_simp; try with_reducible rfl); try simp only [Act.put, List.setIfInBounds_toArray, List.set_cons_zero, List.set_cons_succ])
            refine wpHead_nil ?_
            change wpList _ _ _ _ _ wr.drew
            generalize wr.drew = w3 at *
            go_wp2_with (at_builtin; refine wpList_append_own _ rfl (.tmp 71) (.tmp 78) 28 rfl w.heap.size 5 i0 (.int .u8 0) 1 1 Tryf.underlying28 HI.out HZ0.out HZ1.out HZ2.out rfl (by decide) _ _ _ rfl (HOWN3.out.alloc _) ⟨w3.heap.size, 0, none⟩ 4 4 _ rfl (by rfl) (cells_new w3 _ 5) (by simp [Value.oneCell']) (by unfold maxLen; omega) (by omega) (by simp; omega) ?_)
            intro v2 w2 hown2 hgr2 _
            have hown3 : w2.ownsRow w.heap.size 5 1 v2 (L ++ escN c).length (bv (L ++ escN c)) := by
              rw [bv_append, List.length_append, HVL.out, HV.out]
              simpa only [hexGet, List.toList_toArray] using hown2
            have HO3 := Lib.hid hown3
            have HB4 : Hid (Below w.heap.size w w2) := Lib.hid ((HB3.out.alloc (by omega) _).grown hgr2 (by simp; omega) (fun q hq => (HOWN3.out.lt q hq).1))
            clear hown2 hgr2 hown3
            go_wp2_with fail
            go_roundg (s.size - (k + 1))
            case rel => exact ⟨k + 1, L ++ escN c, by omega, by omega, by go_num, Lib.hid (by rw [HL.out, escs_take s k hlt c HCC.out]; rfl), by rw [List.length_append, HVL.out]; omega, HO3.out, HB4.out⟩
            case measure => omega
    · have hkn : k = s.size := by omega
      subst hkn
      have hLs : L.length ≤ 4194305 := by omega
      go_wp2_with (at_builtin; refine wpList_append_own _ rfl (.tmp 80) (.tmp 81) 28 rfl w.heap.size 5 i0 (.int .u8 0) 1 1 Tryf.underlying28 HI.out HZ0.out HZ1.out HZ2.out rfl (by decide) _ _ _ rfl (HOWN.out.alloc _) ⟨wr.heap.size, 0, none⟩ 1 1 [.int .u8 34] rfl rfl (cells_new wr #[.int .u8 34] 5) (by simp [Value.oneCell']) (by unfold maxLen; omega) (by omega) (by simp; omega) ?_)
      intro v2 w2 hown2 hgr2 _
      have hown3 : w2.ownsRow w.heap.size 5 1 v2 (L ++ [34]).length (bv (L ++ [34])) := by
        rw [bv_append, List.length_append]
        exact hown2
      have HB3 : Hid (Below w.heap.size w w2) := Lib.hid ((HB.out.alloc hws _).grown hgr2 (by simp; omega) (fun q hq => (HOWN.out.lt q hq).1))
      obtain ⟨A', c', hv, hr⟩ := own_row hown3
      subst hv
      have hcv := conv_row (P := Tryf.prog) (c := c') hr 28 5 9 Tryf.underlying28 Tryf.underlying5 Tryf.underlying9
      rw [text_of] at hcv
      have HT : Hid ((L ++ [34]) = quo s) := Lib.hid (by
        rw [HL.out]
        unfold quo
        rw [List.take_of_length_le (by simp)]
        rfl)
      generalize L ++ [34] = M at *
      clear hr hown2 hgr2 hown3
      go_wp2_with fail
      go_ret
      exact ⟨by rw [← HT.out]; rfl, HB3.out⟩
end Go.Proofs.YtcjbnieeoggfkaaFmt

