/- internalQuote of a chain of scalars. -/
import Derived.Test.YtdpacomlnipfgaaSmall
import Derived.Test.YtdpacomlnipfgaaHead
import Derived.OwnWalk
import Derived.Lib.AppendStr
import Derived.StillTailTactics
import Derived.Laws.RangeAny
namespace Go.Proofs.Ytdpacomlnipfgaa
open Go.RowKit
set_option linter.unusedVariables false
set_option linter.unusedSimpArgs false

theorem Try.info5 : (Try.prog.info? 5).map (fun i => (i.zero, i.size, i.bytes)) = some (some (.int .u8 0), 1, 1) := by kernel_rfl
def bv (l : List UInt8) : List Value := l.map fun b => .int .u8 (b.toNat : Int)
theorem bv_length (l : List UInt8) : (bv l).length = l.length := by simp [bv]
theorem bv_append (l m : List UInt8) : bv (l ++ m) = bv l ++ bv m := by simp [bv]
theorem bv_str (x : ByteArray) : Lib.strCells x = bv x.data.toList := rfl
theorem bv_one (l : List UInt8) : ∀ u ∈ bv l, u.oneCell' = true := by
  intro u hu
  obtain ⟨b, _, rfl⟩ := List.mem_map.1 hu
  rfl
theorem cells_new (w : World) (cs : Array Value) (t : TypeId) : ∀ j u, cs.toList[j]? = some u → (w.alloc (.cells cs t)).cell? ((⟨w.heap.size, 0, none⟩ : Addr).add j) = some u := by
  intro j u hu
  rw [add_flat, Nat.zero_add, cell_of_row (w.alloc (.cells cs t)) w.heap.size j cs t (0, 0) (heap_alloc_new w _)]
  simpa using hu

/-- Where the second loop stands: what has been written for the scalars before place i. -/
def QS (s : ByteArray) (a : Bool) (q : Nat) (cs : List Nat) (w : World) (i : Nat) (v : Value) (wr : World) : Prop :=
  ∃ (done rest : List Nat) (L : List UInt8), cs = done ++ rest ∧ Chain s i rest ∧ L = UInt8.ofNat q :: done.flatMap (esc a q) ∧ L.length ≤ 1 + 12 * i ∧ wr.ownsRow w.heap.size 5 1 v L.length (bv L) ∧ Below w.heap.size w wr
theorem QS.next {s : ByteArray} {a : Bool} {q : Nat} {cs done mid rest' : List Nat} {L E : List UInt8} {w wr : World} {i i' m : Nat} {v' : Value}
    (hcs : cs = done ++ (mid ++ rest')) (hch : Chain s i' rest') (hL : L = UInt8.ofNat q :: done.flatMap (esc a q)) (hl : L.length ≤ 1 + 12 * i) (hE : E = mid.flatMap (esc a q)) (hm : E.length = m)
    (hii : E.length + 12 * i ≤ 12 * i') (hown : wr.ownsRow w.heap.size 5 1 v' (L.length + m) (bv L ++ bv E)) (hb : Below w.heap.size w wr) : QS s a q cs w i' v' wr := by
  subst hm
  refine ⟨done ++ mid, rest', L ++ E, by rw [hcs, List.append_assoc], hch, by rw [hL, hE, List.flatMap_append]; rfl, by rw [List.length_append]; omega, ?_, hb⟩
  rw [List.length_append, bv_append]
  exact hown

theorem dec_valid (s : ByteArray) (pos : Nat) : (Utf8.decode s pos).1 < 55296 ∨ (57343 < (Utf8.decode s pos).1 ∧ (Utf8.decode s pos).1 ≤ 1114111) := by
  have h := Lib.decodeN_valid (s.size - pos) (s.get! pos).toNat (s.get! (pos + 1)).toNat (s.get! (pos + 2)).toNat (s.get! (pos + 3)).toNat (UInt8.toNat_lt _)
  rw [← Lib.decode_at] at h
  exact h
theorem dec_width (s : ByteArray) (pos : Nat) (hp : pos < s.size) : 1 ≤ (Utf8.decode s pos).2 ∧ pos + (Utf8.decode s pos).2 ≤ s.size := by
  have h1 := Lib.width_pos s pos
  have h2 := Lib.decodeN_width_le (s.size - pos) (s.get! pos).toNat (s.get! (pos + 1)).toNat (s.get! (pos + 2)).toNat (s.get! (pos + 3)).toNat (by omega)
  rw [← Lib.decode_at] at h2
  omega

def Quoted (L : List UInt8) (w : World) (e : Ending) (w' : World) : Prop := ∃ v, e = .returned v ∧ w'.ownsRow w.heap.size 5 1 v L.length (bv L) ∧ Below w.heap.size w w'

theorem hexGet (d : Nat) (h : d < (⟨#[48, 49, 50, 51, 52, 53, 54, 55, 56, 57, 65, 66, 67, 68, 69, 70]⟩ : ByteArray).size) : ((⟨#[48, 49, 50, 51, 52, 53, 54, 55, 56, 57, 65, 66, 67, 68, 69, 70]⟩ : ByteArray)[d]'h).toNat = (hex d).toNat := by
  have h' : d < 16 := h
  rcases (show d = 0 ∨ d = 1 ∨ d = 2 ∨ d = 3 ∨ d = 4 ∨ d = 5 ∨ d = 6 ∨ d = 7 ∨ d = 8 ∨ d = 9 ∨ d = 10 ∨ d = 11 ∨ d = 12 ∨ d = 13 ∨ d = 14 ∨ d = 15 by omega) with rfl | rfl | rfl | rfl | rfl | rfl | rfl | rfl | rfl | rfl | rfl | rfl | rfl | rfl | rfl | rfl
  all_goals rfl
theorem and1023 (x : Nat) (h : x < 2147483648) : bits .and .i32 (x : Int) 1023 = ((x % 1024 : Nat) : Int) := by
  have := bits_mask .i32 31 (by decide) wraps_i32 10 (by decide) (x : Int) (by omega) (by omega)
  simpa using this
theorem and15 (x : Nat) (h : x < 2147483648) : bits .and .i32 (x : Int) 15 = ((x % 16 : Nat) : Int) := by
  have := bits_mask .i32 31 (by decide) wraps_i32 4 (by decide) (x : Int) (by omega) (by omega)
  simpa using this

/-- A run of scalars that stand as they are, from place i to place j. -/
def Run (s : ByteArray) (a : Bool) (c i : Nat) (rest : List Nat) (j : Nat) : Prop :=
  ∃ mid rest2 : List Nat, rest = mid ++ rest2 ∧ Chain s j rest2 ∧ (s.extract i j).data.toList = (c :: mid).flatMap enc ∧ ∀ x ∈ c :: mid, plain a x = true
theorem ext_len (s : ByteArray) (i j : Nat) : (s.extract i j).data.toList.length = (s.extract i j).size := by simp only [Array.length_toList]; rfl
theorem ext_size (s : ByteArray) {i j : Nat} (h : j ≤ s.size) : (s.extract i j).size = j - i := by simp; omega
theorem run_esc (a : Bool) (q : Nat) : ∀ l : List Nat, (∀ x ∈ l, plain a x = true) → l.flatMap (esc a q) = l.flatMap enc
  | [], _ => rfl
  | c :: l, h => by
    rw [List.flatMap_cons, List.flatMap_cons, run_esc a q l (fun x hx => h x (List.mem_cons_of_mem _ hx))]
    congr 1
    unfold esc
    rw [if_pos (h c (List.mem_cons_self ..))]
theorem esc_big (a : Bool) (q c : Nat) (hp : plain a c = false) (h1 : 65535 < c) (h2 : c ≤ 1114111) : ∃ m1 m2 : Nat, bits .and .i32 (((c : Int) - 65536) / 1024) 1023 = (m1 : Int) ∧ bits .and .i32 ((c : Int) - 65536) 1023 = (m2 : Int) ∧ m1 ≤ 1023 ∧ m2 ≤ 1023 ∧ Hid (esc a q c = u4 (55296 + m1) ++ u4 (56320 + m2)) := by
  obtain ⟨x, hx⟩ : ∃ x : Nat, c - 65536 = x := ⟨_, rfl⟩
  have e1 : (c : Int) - 65536 = (x : Int) := by omega
  refine ⟨x / 1024 % 1024, x % 1024, ?_, ?_, by omega, by omega, Lib.hid ?_⟩
  · rw [e1]; exact and1023 (x / 1024) (by omega)
  · rw [e1]; exact and1023 x (by omega)
  · unfold esc
    rw [hp, hx, if_neg (by simp), if_neg (by omega), if_neg (by omega), if_neg (by omega), if_neg (by omega), if_neg (by omega), if_neg (by omega), if_neg (by omega), if_neg (by omega)]

set_option maxRecDepth 100000 in
set_option maxHeartbeats 4000000 in
theorem quote (s : ByteArray) (a : Bool) (q : Nat) (cs : List Nat) (w : World) (hs : s.size ≤ 1048576) (hq : q = 34 ∨ q = 39) (hc : Chain s 0 cs) :
    Calls Try.prog 14 #[.string s, .bool a, .int .u8 (q : Int)] w (Quoted (UInt8.ofNat q :: cs.flatMap (esc a q) ++ [UInt8.ofNat q]) w) := by
  have HC := Lib.hid hc
  have HQ := Lib.hid hq
  clear hc hq
  go_enter Try.func14, Try.ntmps14
  go_wp2_with fail
  go_loopg [7] s.size (fun g z wr => ∃ pos l : Nat, g = s.size - pos ∧ pos ≤ s.size ∧ wr = w.iter s pos ∧ z = .int .i64 (l : Int) ∧ 2 ≤ l ∧ l ≤ 2 + 12 * pos)
  case atStart => exact ⟨0, 2, rfl, Nat.zero_le _, rfl, rfl, by omega, by omega⟩
  case round =>
    obtain ⟨pos, l, rfl, hp0, rfl, rfl, hl1, hl2⟩ := hrel
    by_cases hp : pos < s.size
    · have hnx : ∀ ty, (Instr.next (.pointer (some ⟨w.heap.size, 0, none⟩)) true ty).run Try.prog (w.iter s pos) = _ := fun ty => run_next_any w s pos ty hp
      have hv := dec_valid s pos
      have hw := dec_width s pos hp
      generalize (Utf8.decode s pos).1 = c at *
      generalize (Utf8.decode s pos).2 = n at *
      cases hpl : plain a c
      · have HPL := Lib.hid hpl
        clear hpl
        go_wp2_with (go_at_call 13; refine (can_is c a false _ HPL.out).mono ?_; rintro e w' ⟨rfl, rfl⟩)
        all_goals
          go_roundg (s.size - (pos + n))
          case rel => first | exact ⟨pos + n, l + 2, rfl, by omega, rfl, by go_num, by omega, by omega⟩ | exact ⟨pos + n, l, rfl, by omega, rfl, by go_num, by omega, by omega⟩ | exact ⟨pos + n, l + 6, rfl, by omega, rfl, by go_num, by omega, by omega⟩ | exact ⟨pos + n, l + 12, rfl, by omega, rfl, by go_num, by omega, by omega⟩
          case measure => omega
      · have HPL := Lib.hid hpl
        clear hpl
        have hrl := rl_bd c
        go_wp2_with (first | (go_at_call 13; refine (can_is c a true _ HPL.out).mono ?_; rintro e w' ⟨rfl, rfl⟩) | (go_at_call 16; refine (runeLen c _ (by omega) (by omega)).mono ?_; rintro e w' ⟨rfl, rfl⟩))
        go_roundg (s.size - (pos + n))
        case rel => exact ⟨pos + n, l + rl c, rfl, by omega, rfl, by go_num, by omega, by omega⟩
        case measure => omega
    · have hnx : ∀ ty, (Instr.next (.pointer (some ⟨w.heap.size, 0, none⟩)) true ty).run Try.prog (w.iter s pos) = _ := fun ty => run_next_end w s pos ty hp
      obtain ⟨i0, hi, hz0, hz1, hz2⟩ := info_parts Try.info5
      have HI := Lib.hid hi
      have HZ0 := Lib.hid hz0
      have HZ1 := Lib.hid hz1
      have HZ2 := Lib.hid hz2
      clear hi hz0 hz1
      have HB0 : Hid (Below w.heap.size w (w.iter s pos)) := Lib.hid ((Below.refl _ _).alloc (Nat.le_refl _) _)
      have hsz0 : (w.iter s pos).heap.size = w.heap.size + 1 := by simp [World.iter]
      have hszl : w.heap.size ≤ (w.iter s pos).heap.size := by omega
      go_wp2_with (refine wpList_make_own _ rfl (.const (.int .i64 0)) (.tmp 58) 23 rfl w.heap.size 5 i0 (.int .u8 0) 1 Try.underlying23 HI.out HZ0.out HZ1.out .i64 .i64 (l : Int) l rfl rfl rfl (by rw [hz2]; omega) (by unfold maxLen; omega) hszl ?_)
      intro w1 hown1 hgr1
      have HOWN := Lib.hid hown1
      have HB1 : Hid (Below w.heap.size w w1) := Lib.hid (HB0.out.grown hgr1 hszl (fun k hk => by cases hk))
      have hw1 := HB1.out.size
      clear hown1 hgr1 hnx hsz0 hszl hp hl1 hl2 hp0 HB0 hz2
      generalize (w.iter s pos).heap.size = g0 at *
      go_wp2_with (at_builtin; refine wpList_append_own _ rfl (.tmp 62) (.tmp 64) 23 rfl w.heap.size 5 i0 (.int .u8 0) 1 1 Try.underlying23 HI.out HZ0.out HZ1.out HZ2.out rfl (by decide) _ _ _ rfl (HOWN.out.alloc _) ⟨w1.heap.size, 0, none⟩ 1 1 [.int .u8 (q : Int)] rfl rfl (cells_new w1 #[.int .u8 (q : Int)] 5) (by simp [Value.oneCell']) (by unfold maxLen; omega) (by omega) (by simp; omega) ?_)
      intro v2 w2 hown2 hgr2 _

      have HQ0 : Hid (QS s a q cs w 0 v2 w2) := Lib.hid ⟨[], cs, [UInt8.ofNat q], rfl, HC.out, rfl, by simp, by
        have e : bv [UInt8.ofNat q] = [.int .u8 (q : Int)] := by rcases HQ.out with rfl | rfl <;> rfl
        rw [e]; exact hown2, (HB1.out.alloc (by omega) _).grown hgr2 (by simp; omega) (fun k hk => (HOWN.out.lt k hk).1)⟩
      clear hown2 hgr2 HOWN HB1
      go_wp2_with fail
      go_loopg [10, 11] s.size (fun g v z wr => ∃ i : Nat, g = s.size - i ∧ i ≤ s.size ∧ z = .int .i64 (i : Int) ∧ QS s a q cs w i v wr)
      case atStart => exact ⟨0, rfl, Nat.zero_le _, rfl, HQ0.out⟩
      case round =>
        obtain ⟨i, rfl, hi0, rfl, hqs⟩ := hrel
        clear HQ0
        obtain ⟨done, rest, L, hcs, hch, hL, hl, hown, hb⟩ := hqs
        have HOWN := Lib.hid hown
        have HB := Lib.hid hb
        have hwr := hb.size
        clear hown hb
        by_cases hlt : i < s.size
        · obtain ⟨c, n, rest', hrr, hd, hch'⟩ := hch.open_ hlt
          have HCS : Hid (cs = done ++ ([c] ++ rest')) := Lib.hid (by rw [hcs, hrr]; rfl)
          have HL := Lib.hid hL
          have HCH := Lib.hid hch'
          have HSH := Lib.hid hd.shift
          have HBY := Lib.hid hd.bytes
          have hw := hd.width
          have hsc := hd.scalar
          clear hcs hrr hch hL hch' hd
          cases hpl : plain a c
          · have HPL := Lib.hid hpl
            clear hpl
            by_cases k8 : c = 8
            · as_aux_lemma =>
                have f8 : ((c : Int) == 8) = true := by simp; omega
                have HE : Hid (esc a q c = [92, 98]) := Lib.hid (by unfold esc; rw [HPL.out]; simp [k8])
                obtain rfl : n = 1 := by omega
                have HK := Lib.hid k8
                clear k8
                go_wp2_with (first | (go_at_call 17; refine (dec_any _ c _ _ HSH.out).mono ?_; rintro e w' ⟨rfl, rfl⟩) | (go_at_call 13; refine (can_is c a false _ HPL.out).mono ?_; rintro e w' ⟨rfl, rfl⟩) | (at_builtin; refine Lib.wpList_append_own_string _ rfl (.tmp 171) (.const (.string ⟨#[92, 98]⟩)) 23 9 rfl w.heap.size 5 i0 Try.underlying23 Try.underlying9 HI.out HZ0.out HZ1.out HZ2.out _ _ _ rfl HOWN.out ⟨#[92, 98]⟩ rfl (by unfold maxLen; show _ + 2 ≤ _; omega) (by show _ + 2 ≤ _; omega) (by omega) ?_))
                intro v2 w2 hown2 hgr2 _
                have HQ2 : Hid (QS s a _ cs w (i + 1) v2 w2) := Lib.hid (QS.next (mid := [c]) (E := [92, 98]) HCS.out HCH.out HL.out hl (by simp only [List.flatMap_cons, List.flatMap_nil, List.append_nil]; exact HE.out.symm) rfl (by simp only [List.length_cons, List.length_nil]; omega) hown2 (HB.out.grown hgr2 (by omega) (fun k hk => (HOWN.out.lt k hk).1)))
                clear hown2 hgr2
                go_wp2_with fail
                go_roundg (s.size - (i + 1))
                case rel => exact ⟨i + 1, rfl, by omega, by go_num, HQ2.out⟩
                case measure => omega
            by_cases k12 : c = 12
            · as_aux_lemma =>
                have f8 : ((c : Int) == 8) = false := by simp; omega
                have f12 : ((c : Int) == 12) = true := by simp; omega
                have HE : Hid (esc a q c = [92, 102]) := Lib.hid (by unfold esc; rw [HPL.out]; simp [k12])
                obtain rfl : n = 1 := by omega
                have HK := Lib.hid k12
                clear k8 k12
                go_wp2_with (first | (go_at_call 17; refine (dec_any _ c _ _ HSH.out).mono ?_; rintro e w' ⟨rfl, rfl⟩) | (go_at_call 13; refine (can_is c a false _ HPL.out).mono ?_; rintro e w' ⟨rfl, rfl⟩) | (at_builtin; refine Lib.wpList_append_own_string _ rfl (.tmp 177) (.const (.string ⟨#[92, 102]⟩)) 23 9 rfl w.heap.size 5 i0 Try.underlying23 Try.underlying9 HI.out HZ0.out HZ1.out HZ2.out _ _ _ rfl HOWN.out ⟨#[92, 102]⟩ rfl (by unfold maxLen; show _ + 2 ≤ _; omega) (by show _ + 2 ≤ _; omega) (by omega) ?_))
                intro v2 w2 hown2 hgr2 _
                have HQ2 : Hid (QS s a _ cs w (i + 1) v2 w2) := Lib.hid (QS.next (mid := [c]) (E := [92, 102]) HCS.out HCH.out HL.out hl (by simp only [List.flatMap_cons, List.flatMap_nil, List.append_nil]; exact HE.out.symm) rfl (by simp only [List.length_cons, List.length_nil]; omega) hown2 (HB.out.grown hgr2 (by omega) (fun k hk => (HOWN.out.lt k hk).1)))
                clear hown2 hgr2
                go_wp2_with fail
                go_roundg (s.size - (i + 1))
                case rel => exact ⟨i + 1, rfl, by omega, by go_num, HQ2.out⟩
                case measure => omega
            by_cases k10 : c = 10
            · as_aux_lemma =>
                have f8 : ((c : Int) == 8) = false := by simp; omega
                have f12 : ((c : Int) == 12) = false := by simp; omega
                have f10 : ((c : Int) == 10) = true := by simp; omega
                have HE : Hid (esc a q c = [92, 110]) := Lib.hid (by unfold esc; rw [HPL.out]; simp [k10])
                obtain rfl : n = 1 := by omega
                have HK := Lib.hid k10
                clear k8 k12 k10
                go_wp2_with (first | (go_at_call 17; refine (dec_any _ c _ _ HSH.out).mono ?_; rintro e w' ⟨rfl, rfl⟩) | (go_at_call 13; refine (can_is c a false _ HPL.out).mono ?_; rintro e w' ⟨rfl, rfl⟩) | (at_builtin; refine Lib.wpList_append_own_string _ rfl (.tmp 183) (.const (.string ⟨#[92, 110]⟩)) 23 9 rfl w.heap.size 5 i0 Try.underlying23 Try.underlying9 HI.out HZ0.out HZ1.out HZ2.out _ _ _ rfl HOWN.out ⟨#[92, 110]⟩ rfl (by unfold maxLen; show _ + 2 ≤ _; omega) (by show _ + 2 ≤ _; omega) (by omega) ?_))
                intro v2 w2 hown2 hgr2 _
                have HQ2 : Hid (QS s a _ cs w (i + 1) v2 w2) := Lib.hid (QS.next (mid := [c]) (E := [92, 110]) HCS.out HCH.out HL.out hl (by simp only [List.flatMap_cons, List.flatMap_nil, List.append_nil]; exact HE.out.symm) rfl (by simp only [List.length_cons, List.length_nil]; omega) hown2 (HB.out.grown hgr2 (by omega) (fun k hk => (HOWN.out.lt k hk).1)))
                clear hown2 hgr2
                go_wp2_with fail
                go_roundg (s.size - (i + 1))
                case rel => exact ⟨i + 1, rfl, by omega, by go_num, HQ2.out⟩
                case measure => omega
            by_cases k13 : c = 13
            · as_aux_lemma =>
                have f8 : ((c : Int) == 8) = false := by simp; omega
                have f12 : ((c : Int) == 12) = false := by simp; omega
                have f10 : ((c : Int) == 10) = false := by simp; omega
                have f13 : ((c : Int) == 13) = true := by simp; omega
                have HE : Hid (esc a q c = [92, 114]) := Lib.hid (by unfold esc; rw [HPL.out]; simp [k13])
                obtain rfl : n = 1 := by omega
                have HK := Lib.hid k13
                clear k8 k12 k10 k13
                go_wp2_with (first | (go_at_call 17; refine (dec_any _ c _ _ HSH.out).mono ?_; rintro e w' ⟨rfl, rfl⟩) | (go_at_call 13; refine (can_is c a false _ HPL.out).mono ?_; rintro e w' ⟨rfl, rfl⟩) | (at_builtin; refine Lib.wpList_append_own_string _ rfl (.tmp 189) (.const (.string ⟨#[92, 114]⟩)) 23 9 rfl w.heap.size 5 i0 Try.underlying23 Try.underlying9 HI.out HZ0.out HZ1.out HZ2.out _ _ _ rfl HOWN.out ⟨#[92, 114]⟩ rfl (by unfold maxLen; show _ + 2 ≤ _; omega) (by show _ + 2 ≤ _; omega) (by omega) ?_))
                intro v2 w2 hown2 hgr2 _
                have HQ2 : Hid (QS s a _ cs w (i + 1) v2 w2) := Lib.hid (QS.next (mid := [c]) (E := [92, 114]) HCS.out HCH.out HL.out hl (by simp only [List.flatMap_cons, List.flatMap_nil, List.append_nil]; exact HE.out.symm) rfl (by simp only [List.length_cons, List.length_nil]; omega) hown2 (HB.out.grown hgr2 (by omega) (fun k hk => (HOWN.out.lt k hk).1)))
                clear hown2 hgr2
                go_wp2_with fail
                go_roundg (s.size - (i + 1))
                case rel => exact ⟨i + 1, rfl, by omega, by go_num, HQ2.out⟩
                case measure => omega
            by_cases k9 : c = 9
            · as_aux_lemma =>
                have f8 : ((c : Int) == 8) = false := by simp; omega
                have f12 : ((c : Int) == 12) = false := by simp; omega
                have f10 : ((c : Int) == 10) = false := by simp; omega
                have f13 : ((c : Int) == 13) = false := by simp; omega
                have f9 : ((c : Int) == 9) = true := by simp; omega
                have HE : Hid (esc a q c = [92, 116]) := Lib.hid (by unfold esc; rw [HPL.out]; simp [k9])
                obtain rfl : n = 1 := by omega
                have HK := Lib.hid k9
                clear k8 k12 k10 k13 k9
                go_wp2_with (first | (go_at_call 17; refine (dec_any _ c _ _ HSH.out).mono ?_; rintro e w' ⟨rfl, rfl⟩) | (go_at_call 13; refine (can_is c a false _ HPL.out).mono ?_; rintro e w' ⟨rfl, rfl⟩) | (at_builtin; refine Lib.wpList_append_own_string _ rfl (.tmp 195) (.const (.string ⟨#[92, 116]⟩)) 23 9 rfl w.heap.size 5 i0 Try.underlying23 Try.underlying9 HI.out HZ0.out HZ1.out HZ2.out _ _ _ rfl HOWN.out ⟨#[92, 116]⟩ rfl (by unfold maxLen; show _ + 2 ≤ _; omega) (by show _ + 2 ≤ _; omega) (by omega) ?_))
                intro v2 w2 hown2 hgr2 _
                have HQ2 : Hid (QS s a _ cs w (i + 1) v2 w2) := Lib.hid (QS.next (mid := [c]) (E := [92, 116]) HCS.out HCH.out HL.out hl (by simp only [List.flatMap_cons, List.flatMap_nil, List.append_nil]; exact HE.out.symm) rfl (by simp only [List.length_cons, List.length_nil]; omega) hown2 (HB.out.grown hgr2 (by omega) (fun k hk => (HOWN.out.lt k hk).1)))
                clear hown2 hgr2
                go_wp2_with fail
                go_roundg (s.size - (i + 1))
                case rel => exact ⟨i + 1, rfl, by omega, by go_num, HQ2.out⟩
                case measure => omega
            by_cases k92 : c = 92
            · as_aux_lemma =>
                have f8 : ((c : Int) == 8) = false := by simp; omega
                have f12 : ((c : Int) == 12) = false := by simp; omega
                have f10 : ((c : Int) == 10) = false := by simp; omega
                have f13 : ((c : Int) == 13) = false := by simp; omega
                have f9 : ((c : Int) == 9) = false := by simp; omega
                have f92 : ((c : Int) == 92) = true := by simp; omega
                have HE : Hid (esc a q c = [92, 92]) := Lib.hid (by unfold esc; rw [HPL.out]; simp [k92])
                obtain rfl : n = 1 := by omega
                have HK := Lib.hid k92
                clear k8 k12 k10 k13 k9 k92
                go_wp2_with (first | (go_at_call 17; refine (dec_any _ c _ _ HSH.out).mono ?_; rintro e w' ⟨rfl, rfl⟩) | (go_at_call 13; refine (can_is c a false _ HPL.out).mono ?_; rintro e w' ⟨rfl, rfl⟩) | (at_builtin; refine Lib.wpList_append_own_string _ rfl (.tmp 201) (.const (.string ⟨#[92, 92]⟩)) 23 9 rfl w.heap.size 5 i0 Try.underlying23 Try.underlying9 HI.out HZ0.out HZ1.out HZ2.out _ _ _ rfl HOWN.out ⟨#[92, 92]⟩ rfl (by unfold maxLen; show _ + 2 ≤ _; omega) (by show _ + 2 ≤ _; omega) (by omega) ?_))
                intro v2 w2 hown2 hgr2 _
                have HQ2 : Hid (QS s a _ cs w (i + 1) v2 w2) := Lib.hid (QS.next (mid := [c]) (E := [92, 92]) HCS.out HCH.out HL.out hl (by simp only [List.flatMap_cons, List.flatMap_nil, List.append_nil]; exact HE.out.symm) rfl (by simp only [List.length_cons, List.length_nil]; omega) hown2 (HB.out.grown hgr2 (by omega) (fun k hk => (HOWN.out.lt k hk).1)))
                clear hown2 hgr2
                go_wp2_with fail
                go_roundg (s.size - (i + 1))
                case rel => exact ⟨i + 1, rfl, by omega, by go_num, HQ2.out⟩
                case measure => omega
            by_cases k34 : c = 34
            · as_aux_lemma =>
                have f8 : ((c : Int) == 8) = false := by simp; omega
                have f12 : ((c : Int) == 12) = false := by simp; omega
                have f10 : ((c : Int) == 10) = false := by simp; omega
                have f13 : ((c : Int) == 13) = false := by simp; omega
                have f9 : ((c : Int) == 9) = false := by simp; omega
                have f92 : ((c : Int) == 92) = false := by simp; omega
                have f34 : ((c : Int) == 34) = true := by simp; omega
                obtain rfl : n = 1 := by omega
                rcases HQ.out with rfl | rfl
                · have HE : Hid (esc a 34 c = [92, 34]) := Lib.hid (by unfold esc; rw [HPL.out]; simp [k34])
                  clear k8 k12 k10 k13 k9 k92 k34
                  go_wp2_with (first | (go_at_call 17; refine (dec_any _ c _ _ HSH.out).mono ?_; rintro e w' ⟨rfl, rfl⟩) | (go_at_call 13; refine (can_is c a false _ HPL.out).mono ?_; rintro e w' ⟨rfl, rfl⟩) | (at_builtin; refine Lib.wpList_append_own_string _ rfl (.tmp 209) (.const (.string ⟨#[92, 34]⟩)) 23 9 rfl w.heap.size 5 i0 Try.underlying23 Try.underlying9 HI.out HZ0.out HZ1.out HZ2.out _ _ _ rfl HOWN.out ⟨#[92, 34]⟩ rfl (by unfold maxLen; show _ + 2 ≤ _; omega) (by show _ + 2 ≤ _; omega) (by omega) ?_))
                  intro v2 w2 hown2 hgr2 _
                  have HQ2 : Hid (QS s a _ cs w (i + 1) v2 w2) := Lib.hid (QS.next (mid := [c]) (E := [92, 34]) HCS.out HCH.out HL.out hl (by simp only [List.flatMap_cons, List.flatMap_nil, List.append_nil]; exact HE.out.symm) rfl (by simp only [List.length_cons, List.length_nil]; omega) hown2 (HB.out.grown hgr2 (by omega) (fun k hk => (HOWN.out.lt k hk).1)))
                  clear hown2 hgr2
                  go_wp2_with fail
                  go_roundg (s.size - (i + 1))
                  case rel => exact ⟨i + 1, rfl, by omega, by go_num, HQ2.out⟩
                  case measure => omega
                · have HE : Hid (esc a 39 c = [34]) := Lib.hid (by unfold esc; rw [HPL.out]; simp [k34])
                  clear k8 k12 k10 k13 k9 k92 k34
                  go_wp2_with (first | (go_at_call 17; refine (dec_any _ c _ _ HSH.out).mono ?_; rintro e w' ⟨rfl, rfl⟩) | (go_at_call 13; refine (can_is c a false _ HPL.out).mono ?_; rintro e w' ⟨rfl, rfl⟩) | (at_builtin; refine wpList_append_own _ rfl (.tmp 211) (.tmp 212) 23 rfl w.heap.size 5 i0 (.int .u8 0) 1 1 Try.underlying23 HI.out HZ0.out HZ1.out HZ2.out rfl (by decide) _ _ _ rfl (HOWN.out.alloc _) ⟨wr.heap.size, 0, none⟩ 1 1 [.int .u8 34] rfl rfl (cells_new wr #[.int .u8 34] 5) (by simp [Value.oneCell']) (by unfold maxLen; omega) (by omega) (by simp; omega) ?_))
                  intro v2 w2 hown2 hgr2 _
                  have HQ2 : Hid (QS s a _ cs w (i + 1) v2 w2) := Lib.hid (QS.next (mid := [c]) (E := [34]) HCS.out HCH.out HL.out hl (by simp only [List.flatMap_cons, List.flatMap_nil, List.append_nil]; exact HE.out.symm) rfl (by simp only [List.length_cons, List.length_nil]; omega) hown2 ((HB.out.alloc (by omega) _).grown hgr2 (by simp; omega) (fun k hk => (HOWN.out.lt k hk).1)))
                  clear hown2 hgr2
                  go_wp2_with fail
                  go_roundg (s.size - (i + 1))
                  case rel => exact ⟨i + 1, rfl, by omega, by go_num, HQ2.out⟩
                  case measure => omega
            · have g39 : c ≠ 39 := fun e => by have := HPL.out; rw [e] at this; cases a <;> simp [plain] at this
              have f8 : ((c : Int) == 8) = false := by simp; omega
              have f12 : ((c : Int) == 12) = false := by simp; omega
              have f10 : ((c : Int) == 10) = false := by simp; omega
              have f13 : ((c : Int) == 13) = false := by simp; omega
              have f9 : ((c : Int) == 9) = false := by simp; omega
              have f92 : ((c : Int) == 92) = false := by simp; omega
              have f34 : ((c : Int) == 34) = false := by simp; omega
              have f39 : ((c : Int) == 39) = false := by simp; omega
              by_cases hbig : c ≤ 65535
              · have HE : Hid (esc a q c = u4 c) := Lib.hid (by unfold esc; rw [HPL.out]; simp [k8, k12, k10, k13, k9, k92, k34, hbig])
                clear k8 k12 k10 k13 k9 k92 k34 g39
                go_wp2_with (first | (go_at_call 17; refine (dec_any _ c _ _ HSH.out).mono ?_; rintro e w' ⟨rfl, rfl⟩) | (go_at_call 13; refine (can_is c a false _ HPL.out).mono ?_; rintro e w' ⟨rfl, rfl⟩))
                clear f8 f12 f10 f13 f9 f92 f34 f39
                obtain ⟨d1, hxd1, hld1, hrd1⟩ : ∃ d : Nat, (c : Int) / 4096 = (d : Int) ∧ (d : Int) < 16 ∧ Hid (c / 4096 = d) := ⟨c / 4096, by omega, by omega, Lib.hid rfl⟩
                obtain ⟨d2, hxd2, hld2, hrd2⟩ : ∃ d : Nat, bits .and .i32 ((c : Int) / 256) 15 = (d : Int) ∧ (d : Int) < 16 ∧ Hid (c / 256 % 16 = d) := ⟨c / 256 % 16, and15 (c / 256) (by omega), by omega, Lib.hid rfl⟩
                obtain ⟨d3, hxd3, hld3, hrd3⟩ : ∃ d : Nat, bits .and .i32 ((c : Int) / 16) 15 = (d : Int) ∧ (d : Int) < 16 ∧ Hid (c / 16 % 16 = d) := ⟨c / 16 % 16, and15 (c / 16) (by omega), by omega, Lib.hid rfl⟩
                obtain ⟨d4, hxd4, hld4, hrd4⟩ : ∃ d : Nat, bits .and .i32 (c : Int) 15 = (d : Int) ∧ (d : Int) < 16 ∧ Hid (c % 16 = d) := ⟨c % 16, and15 (c) (by omega), by omega, Lib.hid rfl⟩
                have HV : Hid (bv (u4 c) = [.int .u8 92, .int .u8 117, .int .u8 ((hex d1).toNat : Int), .int .u8 ((hex d2).toNat : Int), .int .u8 ((hex d3).toNat : Int), .int .u8 ((hex d4).toNat : Int)]) := Lib.hid (by unfold u4; rw [hrd1.out, hrd2.out, hrd3.out, hrd4.out]; rfl)
                have HOWN3 := Lib.hid (HOWN.out.drew)
                have HB3 : Hid (Below w.heap.size w wr.drew) := Lib.hid ⟨HB.out.os, HB.out.tape, HB.out.output, HB.out.size, HB.out.block⟩
                have hw3 : w.heap.size ≤ wr.drew.heap.size := hwr
                refine wp_region_head 15 (by kernel_rfl) (by kernel_rfl) (fun _ d _ _ _ h => by cases d <;> exact h) ?_
                simp only [List.take_succ_cons, List.take_zero, List.drop_succ_cons, List.drop_zero]
                iterate 15 (apply wpHead_step; rfl; (intro _; go_simp; try with_reducible rfl); simp only [Act.put, List.setIfInBounds_toArray, List.set_cons_zero, List.set_cons_succ])
                refine wpHead_nil ?_
                change wpList _ _ _ _ _ wr.drew
                generalize wr.drew = w3 at *
                go_wp2_with (at_builtin; refine wpList_append_own _ rfl (.tmp 112) (.tmp 127) 23 rfl w.heap.size 5 i0 (.int .u8 0) 1 1 Try.underlying23 HI.out HZ0.out HZ1.out HZ2.out rfl (by decide) _ _ _ rfl (HOWN3.out.alloc _) ⟨w3.heap.size, 0, none⟩ 6 6 _ rfl (by rfl) (cells_new w3 _ 5) (by simp [Value.oneCell']) (by unfold maxLen; omega) (by omega) (by simp; omega) ?_)
                intro v2 w2 hown2 hgr2 _
                have hown3 : w2.ownsRow w.heap.size 5 1 v2 (L.length + 6) (bv L ++ bv (u4 c)) := by
                  rw [HV.out]
                  simpa only [hexGet, List.toList_toArray] using hown2
                have HQ2 : Hid (QS s a _ cs w (i + n) v2 w2) := Lib.hid (QS.next (mid := [c]) (E := u4 c) HCS.out HCH.out HL.out hl (by simp only [List.flatMap_cons, List.flatMap_nil, List.append_nil]; exact HE.out.symm) rfl (by rw [u4_len]; omega) hown3 ((HB3.out.alloc (by omega) _).grown hgr2 (by simp; omega) (fun k hk => (HOWN3.out.lt k hk).1)))
                clear hown2 hgr2 hown3
                go_wp2_with fail
                go_roundg (s.size - (i + n))
                case rel => exact ⟨i + n, rfl, by omega, by go_num, HQ2.out⟩
                case measure => omega
              · obtain ⟨m1, m2, hm1, hm2, hml1, hml2, HE⟩ := esc_big a q c HPL.out (by omega) hsc.1
                clear k8 k12 k10 k13 k9 k92 k34 g39
                go_wp2_with (first | (go_at_call 17; refine (dec_any _ c _ _ HSH.out).mono ?_; rintro e w' ⟨rfl, rfl⟩) | (go_at_call 13; refine (can_is c a false _ HPL.out).mono ?_; rintro e w' ⟨rfl, rfl⟩))
                clear f8 f12 f10 f13 f9 f92 f34 f39 hm1 hm2
                obtain ⟨a1, hxa1, hla1, hra1⟩ : ∃ d : Nat, ((55296 : Int) + ((m1 : Nat) : Int)) / 4096 = (d : Int) ∧ (d : Int) < 16 ∧ Hid ((55296 + m1) / 4096 = d) := ⟨(55296 + m1) / 4096, by omega, by omega, Lib.hid rfl⟩
                obtain ⟨a2, hxa2, hla2, hra2⟩ : ∃ d : Nat, bits .and .i32 (((55296 : Int) + ((m1 : Nat) : Int)) / 256) 15 = (d : Int) ∧ (d : Int) < 16 ∧ Hid ((55296 + m1) / 256 % 16 = d) := ⟨(55296 + m1) / 256 % 16, and15 ((55296 + m1) / 256) (by omega), by omega, Lib.hid rfl⟩
                obtain ⟨a3, hxa3, hla3, hra3⟩ : ∃ d : Nat, bits .and .i32 (((55296 : Int) + ((m1 : Nat) : Int)) / 16) 15 = (d : Int) ∧ (d : Int) < 16 ∧ Hid ((55296 + m1) / 16 % 16 = d) := ⟨(55296 + m1) / 16 % 16, and15 ((55296 + m1) / 16) (by omega), by omega, Lib.hid rfl⟩
                obtain ⟨a4, hxa4, hla4, hra4⟩ : ∃ d : Nat, bits .and .i32 ((55296 : Int) + ((m1 : Nat) : Int)) 15 = (d : Int) ∧ (d : Int) < 16 ∧ Hid ((55296 + m1) % 16 = d) := ⟨(55296 + m1) % 16, and15 (55296 + m1) (by omega), by omega, Lib.hid rfl⟩
                obtain ⟨b1, hxb1, hlb1, hrb1⟩ : ∃ d : Nat, ((56320 : Int) + ((m2 : Nat) : Int)) / 4096 = (d : Int) ∧ (d : Int) < 16 ∧ Hid ((56320 + m2) / 4096 = d) := ⟨(56320 + m2) / 4096, by omega, by omega, Lib.hid rfl⟩
                obtain ⟨b2, hxb2, hlb2, hrb2⟩ : ∃ d : Nat, bits .and .i32 (((56320 : Int) + ((m2 : Nat) : Int)) / 256) 15 = (d : Int) ∧ (d : Int) < 16 ∧ Hid ((56320 + m2) / 256 % 16 = d) := ⟨(56320 + m2) / 256 % 16, and15 ((56320 + m2) / 256) (by omega), by omega, Lib.hid rfl⟩
                obtain ⟨b3, hxb3, hlb3, hrb3⟩ : ∃ d : Nat, bits .and .i32 (((56320 : Int) + ((m2 : Nat) : Int)) / 16) 15 = (d : Int) ∧ (d : Int) < 16 ∧ Hid ((56320 + m2) / 16 % 16 = d) := ⟨(56320 + m2) / 16 % 16, and15 ((56320 + m2) / 16) (by omega), by omega, Lib.hid rfl⟩
                obtain ⟨b4, hxb4, hlb4, hrb4⟩ : ∃ d : Nat, bits .and .i32 ((56320 : Int) + ((m2 : Nat) : Int)) 15 = (d : Int) ∧ (d : Int) < 16 ∧ Hid ((56320 + m2) % 16 = d) := ⟨(56320 + m2) % 16, and15 (56320 + m2) (by omega), by omega, Lib.hid rfl⟩
                have HV : Hid (bv (u4 (55296 + m1) ++ u4 (56320 + m2)) = [.int .u8 92, .int .u8 117, .int .u8 ((hex a1).toNat : Int), .int .u8 ((hex a2).toNat : Int), .int .u8 ((hex a3).toNat : Int), .int .u8 ((hex a4).toNat : Int), .int .u8 92, .int .u8 117, .int .u8 ((hex b1).toNat : Int), .int .u8 ((hex b2).toNat : Int), .int .u8 ((hex b3).toNat : Int), .int .u8 ((hex b4).toNat : Int)]) := Lib.hid (by unfold u4; rw [hra1.out, hra2.out, hra3.out, hra4.out, hrb1.out, hrb2.out, hrb3.out, hrb4.out]; rfl)
                have HOWN3 := Lib.hid (HOWN.out.drew)
                have HB3 : Hid (Below w.heap.size w wr.drew) := Lib.hid ⟨HB.out.os, HB.out.tape, HB.out.output, HB.out.size, HB.out.block⟩
                have hw3 : w.heap.size ≤ wr.drew.heap.size := hwr
                refine wp_region_head 29 (by kernel_rfl) (by kernel_rfl) (fun _ d _ _ _ h => by cases d <;> exact h) ?_
                simp only [List.take_succ_cons, List.take_zero, List.drop_succ_cons, List.drop_zero]
                iterate 29 (apply wpHead_step; rfl; (intro _; go_simp; try with_reducible rfl); simp only [Act.put, List.setIfInBounds_toArray, List.set_cons_zero, List.set_cons_succ])
                refine wpHead_nil ?_
                change wpList _ _ _ _ _ wr.drew
                generalize wr.drew = w3 at *
                go_wp2_with (at_builtin; refine wpList_append_own _ rfl (.tmp 138) (.tmp 167) 23 rfl w.heap.size 5 i0 (.int .u8 0) 1 1 Try.underlying23 HI.out HZ0.out HZ1.out HZ2.out rfl (by decide) _ _ _ rfl (HOWN3.out.alloc _) ⟨w3.heap.size, 0, none⟩ 12 12 _ rfl (by rfl) (cells_new w3 _ 5) (by simp [Value.oneCell']) (by unfold maxLen; omega) (by omega) (by simp; omega) ?_)
                intro v2 w2 hown2 hgr2 _
                have hown3 : w2.ownsRow w.heap.size 5 1 v2 (L.length + 12) (bv L ++ bv (u4 (55296 + m1) ++ u4 (56320 + m2))) := by
                  rw [HV.out]
                  simpa only [hexGet, List.toList_toArray] using hown2
                have HQ2 : Hid (QS s a _ cs w (i + n) v2 w2) := Lib.hid (QS.next (mid := [c]) (E := u4 (55296 + m1) ++ u4 (56320 + m2)) HCS.out HCH.out HL.out hl (by simp only [List.flatMap_cons, List.flatMap_nil, List.append_nil]; exact HE.out.symm) rfl (by rw [List.length_append, u4_len, u4_len]; omega) hown3 ((HB3.out.alloc (by omega) _).grown hgr2 (by simp; omega) (fun k hk => (HOWN3.out.lt k hk).1)))
                clear hown2 hgr2 hown3
                go_wp2_with fail
                go_roundg (s.size - (i + n))
                case rel => exact ⟨i + n, rfl, by omega, by go_num, HQ2.out⟩
                case measure => omega 
          · have HPL := Lib.hid hpl
            have HRUN0 : Hid (Run s a c i rest' (i + n)) := Lib.hid ⟨[], rest', rfl, HCH.out, by rw [HBY.out]; simp, fun x hx => by rw [show x = c by simpa using hx]; exact hpl⟩
            clear hpl
            obtain ⟨wo, hwo⟩ : ∃ wo : World, wo = wr := ⟨_, rfl⟩
            subst hwo
            go_wp2_with (first | (go_at_call 17; refine (dec_any _ c _ _ HSH.out).mono ?_; rintro e w' ⟨rfl, rfl⟩) | (go_at_call 13; refine (can_is c a true _ HPL.out).mono ?_; rintro e w' ⟨rfl, rfl⟩))
            go_loopg [11] (s.size - (i + n)) (fun g z wq => wo = wq ∧ ∃ j : Nat, g = s.size - j ∧ i < j ∧ j ≤ s.size ∧ z = .int .i64 (j : Int) ∧ Run s a c i rest' j)
            case atStart => exact ⟨rfl, i + n, rfl, by omega, by omega, by go_num, HRUN0.out⟩
            case round =>
              obtain ⟨rfl, j, rfl, hij, hj, rfl, hrun⟩ := hrel
              clear HRUN0
              by_cases hjl : j < s.size
              · have hrun' := hrun
                obtain ⟨mid, rest2, h1, h2, h3, h4⟩ := hrun'
                obtain ⟨c2, n2, rest3, e3, hd2, hch2⟩ := h2.open_ hjl
                have HSH2 := Lib.hid hd2.shift
                have hw2 := hd2.width
                cases hp2 : plain a c2
                · have HP2 := Lib.hid hp2
                  clear hp2 h1 h2 h3 h4 e3 hd2 hch2
                  have HRN := Lib.hid hrun
                  clear hrun
                  have hsz : (s.extract i j).size ≤ 1048576 := by rw [ext_size s hj]; omega
                  go_wp2_with (first | (go_at_call 17; refine (dec_any _ c2 _ _ HSH2.out).mono ?_; rintro e w' ⟨rfl, rfl⟩) | (go_at_call 13; refine (can_is c2 a false _ HP2.out).mono ?_; rintro e w' ⟨rfl, rfl⟩) | (at_builtin; refine Lib.wpList_append_own_string _ rfl (.tmp 100) (.tmp 104) 23 9 rfl w.heap.size 5 i0 Try.underlying23 Try.underlying9 HI.out HZ0.out HZ1.out HZ2.out _ _ _ rfl HOWN.out (s.extract i j) rfl (by unfold maxLen; omega) (by omega) (by omega) ?_))
                  intro v2 w2 hown2 hgr2 _
                  have HQ2 : Hid (QS s a q cs w j v2 w2) := Lib.hid (by
                    obtain ⟨mid, rest2, h1, h2, h3, h4⟩ := HRN.out
                    refine QS.next (mid := c :: mid) (rest' := rest2) (E := (s.extract i j).data.toList) (by rw [HCS.out, h1]; rfl) h2 HL.out hl (by rw [h3]; exact (run_esc a q _ h4).symm) (m := j - i) (by rw [ext_len, ext_size s hj]) ?_ ?_ (HB.out.grown hgr2 (by omega) (fun k hk => (HOWN.out.lt k hk).1))
                    · rw [ext_len, ext_size s hj]; omega
                    · exact hown2)
                  clear hown2 hgr2
                  go_wp2_with fail
                  go_roundg (s.size - j)
                  case rel => exact ⟨j, rfl, by omega, rfl, HQ2.out⟩
                  case measure => omega
                · have HP2 := Lib.hid hp2
                  have HR2 : Hid (Run s a c i rest' (j + n2)) := Lib.hid ⟨mid ++ [c2], rest3, by rw [h1, e3, List.append_assoc]; rfl, hch2, by rw [ext_cat s (a := i) (b := j) (c := j + n2) (by omega) (by omega), h3, hd2.bytes]; simp, by
                    intro x hx
                    rcases List.mem_append.1 (show x ∈ (c :: mid) ++ [c2] from hx) with h | h
                    · exact h4 x h
                    · have : x = c2 := by simpa using h
                      rw [this]; exact hp2⟩
                  clear hp2 h1 h2 h3 h4 e3 hd2 hch2 hrun
                  go_wp2_with (first | (go_at_call 17; refine (dec_any _ c2 _ _ HSH2.out).mono ?_; rintro e w' ⟨rfl, rfl⟩) | (go_at_call 13; refine (can_is c2 a true _ HP2.out).mono ?_; rintro e w' ⟨rfl, rfl⟩))
                  go_roundg (s.size - (j + n2))
                  case rel => exact ⟨rfl, j + n2, rfl, by omega, by omega, by go_num, HR2.out⟩
                  case measure => omega
              · have HRN := Lib.hid hrun
                clear hrun
                have hsz : (s.extract i j).size ≤ 1048576 := by rw [ext_size s hj]; omega
                go_wp2_with (at_builtin; refine Lib.wpList_append_own_string _ rfl (.tmp 100) (.tmp 104) 23 9 rfl w.heap.size 5 i0 Try.underlying23 Try.underlying9 HI.out HZ0.out HZ1.out HZ2.out _ _ _ rfl HOWN.out (s.extract i j) rfl (by unfold maxLen; omega) (by omega) (by omega) ?_)
                intro v2 w2 hown2 hgr2 _
                have HQ2 : Hid (QS s a q cs w j v2 w2) := Lib.hid (by
                  obtain ⟨mid, rest2, h1, h2, h3, h4⟩ := HRN.out
                  refine QS.next (mid := c :: mid) (rest' := rest2) (E := (s.extract i j).data.toList) (by rw [HCS.out, h1]; rfl) h2 HL.out hl (by rw [h3]; exact (run_esc a q _ h4).symm) (m := j - i) (by rw [ext_len, ext_size s hj]) ?_ ?_ (HB.out.grown hgr2 (by omega) (fun k hk => (HOWN.out.lt k hk).1))
                  · rw [ext_len, ext_size s hj]; omega
                  · exact hown2)
                clear hown2 hgr2
                go_wp2_with fail
                go_roundg (s.size - j)
                case rel => exact ⟨j, rfl, by omega, rfl, HQ2.out⟩
                case measure => omega
        · have HCS : Hid (L = UInt8.ofNat q :: cs.flatMap (esc a q)) := Lib.hid (by rw [hL, hcs, hch.end_ hlt, List.append_nil])
          clear hcs hch hL
          go_wp2_with (at_builtin; refine wpList_append_own _ rfl (.tmp 227) (.tmp 229) 23 rfl w.heap.size 5 i0 (.int .u8 0) 1 1 Try.underlying23 HI.out HZ0.out HZ1.out HZ2.out rfl (by decide) _ _ _ rfl (HOWN.out.alloc _) ⟨wr.heap.size, 0, none⟩ 1 1 [.int .u8 (q : Int)] rfl rfl (cells_new wr #[.int .u8 (q : Int)] 5) (by simp [Value.oneCell']) (by unfold maxLen; omega) (by omega) (by simp; omega) ?_)
          intro v2 w2 hown2 hgr2 _
          have HO2 : Hid (w2.ownsRow w.heap.size 5 1 v2 (UInt8.ofNat q :: cs.flatMap (esc a q) ++ [UInt8.ofNat q]).length (bv (UInt8.ofNat q :: cs.flatMap (esc a q) ++ [UInt8.ofNat q]))) := Lib.hid (by
            have e : bv [UInt8.ofNat q] = [.int .u8 (q : Int)] := by rcases HQ.out with rfl | rfl <;> rfl
            rw [← HCS.out, bv_append, e, List.length_append]
            exact hown2)
          have HB2 : Hid (Below w.heap.size w w2) := Lib.hid ((HB.out.alloc (by omega) _).grown hgr2 (by simp; omega) (fun k hk => (HOWN.out.lt k hk).1))
          clear hown2 hgr2
          go_wp2_with fail
          go_ret
          exact ⟨v2, rfl, HO2.out, HB2.out⟩
end Go.Proofs.Ytdpacomlnipfgaa

