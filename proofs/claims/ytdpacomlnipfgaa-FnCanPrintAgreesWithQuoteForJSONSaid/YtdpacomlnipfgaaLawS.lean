/- The walk of the law FnQuoteSingleAgreesWithQuoteForJSON. -/
import Derived.Test.YtdpacomlnipfgaaQuote
namespace Go.Proofs.Ytdpacomlnipfgaa
open Go.RowKit
set_option linter.unusedVariables false
set_option linter.unusedSimpArgs false

/-- The law's own scan of what lies between the quotes. -/
def scan : List UInt8 → List UInt8
  | [] => []
  | [b] => [b]
  | b :: e :: r => if b = 92 then (if e = 34 then 34 :: scan r else b :: e :: scan r) else b :: scan (e :: r)
theorem scan_esc (e : UInt8) (r : List UInt8) (h : e ≠ 34) : scan (92 :: e :: r) = 92 :: e :: scan r := by
  rw [scan, if_pos rfl, if_neg h]
theorem scan_quo (r : List UInt8) : scan (92 :: 34 :: r) = 34 :: scan r := by
  rw [scan, if_pos rfl, if_pos rfl]
theorem scan_raw (b : UInt8) (r : List UInt8) (h : b ≠ 92) : scan (b :: r) = b :: scan r := by
  cases r with
  | nil => rfl
  | cons e r => rw [scan, if_neg h]
theorem scan_pass : ∀ (l r : List UInt8), (∀ b ∈ l, b ≠ 92) → scan (l ++ r) = l ++ scan r
  | [], _, _ => rfl
  | b :: l, r, h => by
    rw [List.cons_append, scan_raw b _ (h b (List.mem_cons_self ..)), scan_pass l r (fun x hx => h x (List.mem_cons_of_mem _ hx))]
    rfl
theorem ofNat_ne (n : Nat) (h : n < 256) (k : n ≠ 92) : UInt8.ofNat n ≠ 92 := fun e => k (by
  have := congrArg UInt8.toNat e
  simpa [Nat.mod_eq_of_lt h] using this)
theorem enc_ne (c : Nat) (h : c ≤ 1114111) (k : c ≠ 92) : ∀ b ∈ enc c, b ≠ 92 := by
  intro b hb
  unfold enc at hb
  split at hb
  · simp only [List.mem_cons, List.not_mem_nil, or_false] at hb
    subst hb; exact ofNat_ne _ (by omega) k
  · split at hb
    · simp only [List.mem_cons, List.not_mem_nil, or_false] at hb
      rcases hb with rfl | rfl <;> exact ofNat_ne _ (by omega) (by omega)
    · split at hb
      · simp only [List.mem_cons, List.not_mem_nil, or_false] at hb
        rcases hb with rfl | rfl | rfl <;> exact ofNat_ne _ (by omega) (by omega)
      · simp only [List.mem_cons, List.not_mem_nil, or_false] at hb
        rcases hb with rfl | rfl | rfl | rfl <;> exact ofNat_ne _ (by omega) (by omega)
theorem hex_ne (d : Nat) (h : d < 16) : hex d ≠ 92 := ofNat_ne _ (by split <;> omega) (by split <;> omega)
theorem u4_scan (c : Nat) (h : c < 65536) (r : List UInt8) : scan (u4 c ++ r) = u4 c ++ scan r := by
  have e : u4 c ++ r = 92 :: 117 :: ([hex (c / 4096), hex (c / 256 % 16), hex (c / 16 % 16), hex (c % 16)] ++ r) := rfl
  rw [e, scan_esc 117 _ (by decide), scan_pass _ r]
  · rfl
  · intro b hb
    simp only [List.mem_cons, List.not_mem_nil, or_false] at hb
    rcases hb with rfl | rfl | rfl | rfl
    · exact hex_ne _ (by omega)
    · exact hex_ne _ (by omega)
    · exact hex_ne _ (by omega)
    · exact hex_ne _ (by omega)
theorem esc_scan (a : Bool) (c : Nat) (h : c ≤ 1114111) (r : List UInt8) : scan (esc a 34 c ++ r) = esc a 39 c ++ scan r := by
  unfold esc
  by_cases hp : plain a c = true
  · rw [if_pos hp, if_pos hp]
    refine scan_pass _ r (enc_ne c h fun e => ?_)
    subst e
    cases a <;> simp [plain] at hp
  · rw [if_neg hp, if_neg hp]
    by_cases k8 : c = 8
    · rw [if_pos k8, if_pos k8]; exact scan_esc _ _ (by decide)
    rw [if_neg k8, if_neg k8]
    by_cases k12 : c = 12
    · rw [if_pos k12, if_pos k12]; exact scan_esc _ _ (by decide)
    rw [if_neg k12, if_neg k12]
    by_cases k10 : c = 10
    · rw [if_pos k10, if_pos k10]; exact scan_esc _ _ (by decide)
    rw [if_neg k10, if_neg k10]
    by_cases k13 : c = 13
    · rw [if_pos k13, if_pos k13]; exact scan_esc _ _ (by decide)
    rw [if_neg k13, if_neg k13]
    by_cases k9 : c = 9
    · rw [if_pos k9, if_pos k9]; exact scan_esc _ _ (by decide)
    rw [if_neg k9, if_neg k9]
    by_cases k92 : c = 92
    · rw [if_pos k92, if_pos k92]; exact scan_esc _ _ (by decide)
    rw [if_neg k92, if_neg k92]
    by_cases k34 : c = 34
    · rw [if_pos k34, if_pos k34, if_pos rfl, if_neg (by decide)]; exact scan_quo _
    rw [if_neg k34, if_neg k34]
    by_cases hb : c ≤ 65535
    · rw [if_pos hb]; exact u4_scan c (by omega) r
    · rw [if_neg hb, List.append_assoc, u4_scan _ (by omega), u4_scan _ (by omega), List.append_assoc]
theorem all_scan (a : Bool) : ∀ cs : List Nat, (∀ c ∈ cs, c ≤ 1114111) → scan (cs.flatMap (esc a 34)) = cs.flatMap (esc a 39)
  | [], _ => rfl
  | c :: cs, h => by
    rw [List.flatMap_cons, List.flatMap_cons, esc_scan a c (h c (List.mem_cons_self ..)), all_scan a cs fun x hx => h x (List.mem_cons_of_mem _ hx)]
theorem Chain.all {s : ByteArray} : ∀ {i : Nat} {cs : List Nat}, Chain s i cs → (∀ c ∈ cs, c ≤ 1114111) ∧ cs.length ≤ s.size - i := by
  intro i cs h
  induction h with
  | nil => exact ⟨by simp, by simp⟩
  | cons h r ih =>
    have := h.width
    have := h.scalar
    refine ⟨fun x hx => ?_, by simp only [List.length_cons]; omega⟩
    rcases List.mem_cons.1 hx with rfl | hx
    · omega
    · exact ih.1 x hx
theorem flat_len (a : Bool) (q : Nat) : ∀ cs : List Nat, (cs.flatMap (esc a q)).length ≤ 12 * cs.length
  | [] => by simp
  | c :: cs => by
    have := flat_len a q cs
    have := esc_len a q c
    rw [List.flatMap_cons, List.length_append, List.length_cons]; omega

theorem blk_lt {w : World} {g : Nat} {o : Obj} (h : w.heap[g]? = some o) : g < w.heap.size := by
  rcases Nat.lt_or_ge g w.heap.size with hlt | hge
  · exact hlt
  · rw [Array.getElem?_eq_none hge] at h; cases h
theorem own_row {w : World} {base N : Nat} {v : Value} {l : List UInt8} (h : w.ownsRow base 5 1 v N (bv l)) : ∃ A c, v = .slice A N c ∧ N ≤ c ∧ RowF w w.heap.size A N (fun p => .int .u8 ((l.getD p 0).toNat : Int)) := by
  have hl : l.length = N := by have := h.1; rw [bv_length] at this; omega
  rcases h.2 with ⟨rfl, h0⟩ | ⟨g, cap, cur, rfl, hb, hh, hle, _⟩
  · subst h0; exact ⟨none, 0, rfl, Nat.le_refl _, fun h => absurd h (by omega)⟩
  · refine ⟨_, cap, rfl, hle, fun hp => ⟨g, 0, rfl, blk_lt hh, fun j hj => ?_⟩⟩
    have hjl : j < l.length := by omega
    have := h.cells (g := g) rfl j (.int .u8 (l[j].toNat : Int)) (by simp [bv, hjl])
    rw [add_flat] at this
    rw [this]
    simp [List.getD_eq_getElem?_getD, hjl]
theorem bytesEqual (A : Option Addr) (n c : Nat) (A' : Option Addr) (c' : Nat) (f : Nat → Int) (B : Nat) (w : World) (hn : n ≤ 1073741824) (h : RowF w B A n (fun p => .int .u8 (f p))) (h' : RowF w B A' n (fun p => .int .u8 (f p))) :
    Calls Try.prog 12 #[.slice A n c, .slice A' n c'] w fun e w' => e = .returned (.bool true) ∧ ∃ m, w' = w.drewN m := by
  have H := Lib.hid h
  have H' := Lib.hid h'
  clear h h'
  go_enter Try.func12, Try.ntmps12
  go_wp2_with fail
  go_loopg [5] n (fun g z wr => (∃ m, wr = w.drewN m) ∧ ∃ k : Nat, k ≤ n ∧ g = n - k ∧ z = .int .i64 k)
  case atStart => exact ⟨⟨0, rfl⟩, 0, Nat.zero_le _, rfl, rfl⟩
  case round =>
    obtain ⟨⟨m, rfl⟩, k, hk, rfl, rfl⟩ := hrel
    by_cases hlt : k < n
    · obtain ⟨b, o, rfl, hb, hc⟩ := H.out (by omega)
      obtain ⟨b', o', rfl, hb', hc'⟩ := H'.out (by omega)
      have d1 : (w.drewN m).cell? ⟨b, o + k, none⟩ = some (.int .u8 (f k)) := hc k hlt
      have d2 : (w.drewN m).cell? ⟨b', o' + k, none⟩ = some (.int .u8 (f k)) := hc' k hlt
      clear hc hc'
      generalize hW : w.drewN m = W at *
      go_wp2_with fail
      go_quiet (fail)
      go_wp2_with fail
      go_roundg (n - (k + 1))
      case rel => exact ⟨by rw [← hW]; exact ⟨_, World.drewN_drewN _ _ _⟩, k + 1, by omega, rfl, by go_num⟩
      case measure => omega
    · go_wp2_with fail
      go_ret
      exact ⟨rfl, m, rfl⟩
theorem zzB9 (s : ByteArray) (a : Bool) (v : Bool) (hv : decide (s.size ≤ 1048576) = v) (w : World) (hs : s.size ≤ maxLen) : Calls Try.prog 9 #[.string s, .bool a] w fun e w' => e = .returned (.bool v) ∧ w = w' := by
  unfold maxLen at hs
  by_cases h : s.size ≤ 1048576
  · have hv' := Lib.hid (show v = true by rw [← hv]; exact decide_eq_true h)
    clear hv
    go_enter Try.func9, Try.ntmps9
    go_wp2_with fail
    go_ret
    exact ⟨by rw [hv'.out]; rfl, rfl⟩
  · have hv' := Lib.hid (show v = false by rw [← hv]; exact decide_eq_false h)
    clear hv
    go_enter Try.func9, Try.ntmps9
    go_wp2_with fail
    go_ret
    exact ⟨by rw [hv'.out]; rfl, rfl⟩
theorem quoteSingle (s : ByteArray) (a : Bool) (cs : List Nat) (w : World) (hs : s.size ≤ 1048576) (hc : Chain s 0 cs) :
    Calls Try.prog 11 #[.string s, .bool a] w (Quoted (39 :: cs.flatMap (esc a 39) ++ [39]) w) := by
  have HC := Lib.hid hc
  clear hc
  go_enter Try.func11, Try.ntmps11
  go_wp2_with fail
  refine (quote s a 39 cs _ hs (.inr rfl) HC.out).mono ?_
  rintro e w1 ⟨v, rfl, ho, hb⟩
  have HO := Lib.hid ho
  have HB := Lib.hid hb
  clear ho hb
  go_wp2_with fail
  go_ret
  exact ⟨v, rfl, HO.out, HB.out⟩
theorem quoteJSON (s : ByteArray) (a : Bool) (cs : List Nat) (w : World) (hs : s.size ≤ 1048576) (hc : Chain s 0 cs) :
    Calls Try.prog 8 #[.string s, .bool a] w (Quoted (34 :: cs.flatMap (esc a 34) ++ [34]) w) := by
  have HC := Lib.hid hc
  clear hc
  go_enter Try.func8, Try.ntmps8
  go_wp2_with fail
  refine (quote s a 34 cs _ hs (.inl rfl) HC.out).mono ?_
  rintro e w1 ⟨v, rfl, ho, hb⟩
  have HO := Lib.hid ho
  have HB := Lib.hid hb
  clear ho hb
  go_wp2_with fail
  go_ret
  exact ⟨v, rfl, HO.out, HB.out⟩

theorem drop_cons (I : List UInt8) {k : Nat} (h : k < I.length) : I.drop k = I[k] :: I.drop (k + 1) := List.drop_eq_getElem_cons h
theorem getD_in (l : List UInt8) {k : Nat} (h : k < l.length) : l.getD k 0 = l[k] := by simp [List.getD_eq_getElem?_getD, h]
/-- Where the law's loop stands at place i. -/
def Sc (I : List UInt8) (w2 : World) (i : Nat) (v : Value) (wr : World) : Prop :=
  ∃ X : List UInt8, X ++ scan (I.drop (i - 1)) = scan I ∧ X.length + 1 ≤ i ∧ wr.ownsRow w2.heap.size 5 1 v (X.length + 1) (bv (39 :: X)) ∧ Below w2.heap.size w2 wr
theorem Sc.next {I : List UInt8} {w2 wr : World} {i m : Nat} {v : Value} {X E : List UInt8} (hX : X ++ scan (I.drop (i - 1)) = scan I) (hl : X.length + 1 ≤ i) (hE : scan (I.drop (i - 1)) = E ++ scan (I.drop (i + m - 1))) (hm : E.length ≤ m)
    (hown : wr.ownsRow w2.heap.size 5 1 v (X.length + 1 + E.length) (bv (39 :: X) ++ bv E)) (hb : Below w2.heap.size w2 wr) : Sc I w2 (i + m) v wr := by
  refine ⟨X ++ E, by rw [List.append_assoc, ← hE, hX], by rw [List.length_append]; omega, ?_, hb⟩
  have e : bv (39 :: (X ++ E)) = bv (39 :: X) ++ bv E := by rw [← bv_append]; rfl
  rw [e, List.length_append, show X.length + E.length + 1 = X.length + 1 + E.length by omega]
  exact hown

set_option maxRecDepth 100000 in
set_option maxHeartbeats 40000000 in
theorem lawS (s : ByteArray) (a : Bool) (w : World) (hs : s.size ≤ 1048576) : Calls Try.prog 5 #[.string s, .bool a] w fun e w' => e = .returned (.bool true) ∧ Below w.heap.size w w' := by
  go_enter Try.func5, Try.ntmps5
  go_wp2_with fail
  refine (zzB9 s a true (decide_eq_true hs) _ (by unfold maxLen; omega)).mono ?_
  rintro e w' ⟨rfl, rfl⟩
  go_wp2_with fail
  refine (valid_any s _ hs).mono ?_
  rintro e w' ⟨rfl, rfl | ⟨rfl, cs, hc⟩⟩
  · go_wp2_with fail
    go_ret
    exact ⟨rfl, Below.refl _ _⟩
  · have HC := Lib.hid hc
    clear hc
    go_wp2_with fail
    refine (quoteSingle s a cs _ hs HC.out).mono ?_
    rintro e w1 ⟨v1, rfl, ho1, hb1⟩
    have hall := HC.out.all
    have hf1 := flat_len a 39 cs
    have hf2 := flat_len a 34 cs
    have HSC := Lib.hid (all_scan a cs hall.1)
    have hcl : cs.length ≤ 1048576 := by have := hall.2; omega
    obtain ⟨S, hS⟩ : ∃ S, S = 39 :: cs.flatMap (esc a 39) ++ [39] := ⟨_, rfl⟩
    have hSl : S.length = (cs.flatMap (esc a 39)).length + 2 := by rw [hS]; simp
    rw [← hS] at ho1
    obtain ⟨ns, hns⟩ : ∃ ns, ns = S.length := ⟨_, rfl⟩
    rw [← hns] at ho1
    obtain ⟨A1, c1, rfl, hc1, hr1⟩ := own_row ho1
    have HR1 := Lib.hid hr1
    have HB1 := Lib.hid hb1
    have hw1 := hb1.size
    have HNS := Lib.hid hns
    have HS0 := Lib.hid hS
    have hnsb : ns ≤ 16777216 := by omega
    clear ho1 hr1 hb1 hc1 hall hns hS hSl hf1
    go_wp2_with fail
    refine (quoteJSON s a cs _ hs HC.out).mono ?_
    rintro e w2 ⟨v2, rfl, ho2, hb2⟩
    obtain ⟨I, hI⟩ : ∃ I, I = cs.flatMap (esc a 34) := ⟨_, rfl⟩
    rw [← hI] at ho2 HSC hf2
    obtain ⟨n, hn⟩ : ∃ n, n = (34 :: I ++ [34]).length := ⟨_, rfl⟩
    rw [← hn] at ho2
    obtain ⟨A2, c2, rfl, hc2, hr2⟩ := own_row ho2
    have hn2 : n = I.length + 2 := by rw [hn]; simp
    have HN := Lib.hid hn2
    have hnb : n ≤ 16777216 := by omega
    have hn0 : 2 ≤ n := by omega
    have HR2 := Lib.hid hr2
    have HB2 := Lib.hid hb2
    have HR1' := Lib.hid ((HR1.out.below hb2).more hb2.size)
    have hw2 := hb2.size
    have HSN : Hid (S = 39 :: scan I ++ [39]) := Lib.hid (by rw [HSC.out, HS0.out])
    have HIB : Hid (I.length ≤ 16777216) := Lib.hid (by omega)
    clear ho2 hr2 hb2 hc2 hI hn hn2 hf2 hcl HR1 HSC HS0
    obtain ⟨i0, hi, hz0, hz1, hz2⟩ := info_parts Try.info5
    have HI := Lib.hid hi
    have HZ0 := Lib.hid hz0
    have HZ1 := Lib.hid hz1
    have HZ2 := Lib.hid hz2
    clear hi hz0 hz1
    go_wp2_with (refine wpList_make_own _ rfl (.const (.int .i64 0)) (.tmp 31) 23 rfl w2.heap.size 5 i0 (.int .u8 0) 1 Try.underlying23 HI.out HZ0.out HZ1.out .i64 .i64 (n : Int) n rfl rfl rfl (by rw [hz2]; omega) (by unfold maxLen; omega) (Nat.le_refl _) ?_)
    intro w3 hown1 hgr1
    have HOWN := Lib.hid hown1
    have HB3 : Hid (Below w2.heap.size w2 w3) := Lib.hid ((Below.refl w2.heap.size w2).grown hgr1 (Nat.le_refl _) (fun k hk => by cases hk))
    have hw3 := HB3.out.size
    clear hown1 hgr1 hz2
    go_wp2_with (at_builtin; refine wpList_append_own _ rfl (.tmp 33) (.tmp 34) 23 rfl w2.heap.size 5 i0 (.int .u8 0) 1 1 Try.underlying23 HI.out HZ0.out HZ1.out HZ2.out rfl (by decide) _ _ _ rfl (HOWN.out.alloc _) ⟨w3.heap.size, 0, none⟩ 1 1 [.int .u8 39] rfl rfl (cells_new w3 #[.int .u8 39] 5) (by simp [Value.oneCell']) (by unfold maxLen; omega) (by omega) (by simp; omega) ?_)
    intro v4 w4 hown4 hgr4 _
    have HS4 : Hid (Sc I w2 1 v4 w4) := Lib.hid ⟨[], by simp, by simp, hown4, (HB3.out.alloc (by omega) _).grown hgr4 (by simp; omega) (fun k hk => (HOWN.out.lt k hk).1)⟩
    clear hown4 hgr4 HOWN HB3 hw3
    go_wp2_with fail
    go_loopg [7, 8] (n - 1) (fun g v z wr => ∃ i : Nat, g = n - i ∧ 1 ≤ i ∧ i ≤ n ∧ z = .int .i64 (i : Int) ∧ Sc I w2 i v wr)
    case atStart => exact ⟨1, rfl, by omega, by omega, rfl, HS4.out⟩
    case round =>
      obtain ⟨i, rfl, hi1, hin, rfl, hsc⟩ := hrel
      clear HS4
      obtain ⟨X, hX, hXl, hown, hb⟩ := hsc
      have HX := Lib.hid hX
      have HOWN := Lib.hid hown
      have HB := Lib.hid hb
      have hwr := hb.size
      have hrj := HR2.out.below hb
      clear hX hown hb
      by_cases hlt : i < n - 1
      · have hkI : i - 1 < I.length := by have := HN.out; omega
        obtain ⟨b2, o2, hA2, hb2, hcell⟩ := hrj (by omega)
        subst hA2
        obtain ⟨b, hb⟩ : ∃ b : UInt8, b = I[i - 1] := ⟨_, rfl⟩
        have hci : wr.cell? ⟨b2, o2 + i, none⟩ = some (.int .u8 (b.toNat : Int)) := by
          rw [hcell i (by omega), hb]
          obtain ⟨m, rfl⟩ : ∃ m, i = m + 1 := ⟨i - 1, by omega⟩
          simp only [List.cons_append, List.getD_cons_succ, Nat.add_one_sub_one]
          rw [getD_in _ (by simp at hkI ⊢; omega), List.getElem_append_left (by simpa using hkI)]
        have HD : Hid (I.drop (i - 1) = b :: I.drop i) := Lib.hid (by rw [drop_cons I hkI, hb, show i - 1 + 1 = i by omega])
        have hlt' : (i : Int) < (n : Int) - 1 := by omega
        by_cases hesc : b = 92 ∧ i < I.length
        · obtain ⟨hb92, hiI⟩ := hesc
          obtain ⟨e, he⟩ : ∃ e : UInt8, e = I[i] := ⟨_, rfl⟩
          have hce : wr.cell? ⟨b2, o2 + (i + 1), none⟩ = some (.int .u8 (e.toNat : Int)) := by
            rw [hcell (i + 1) (by have := HN.out; omega), he]
            simp only [List.cons_append, List.getD_cons_succ]
            rw [getD_in _ (by simp; omega), List.getElem_append_left hiI]
          have HD2 : Hid (I.drop i = e :: I.drop (i + 1)) := Lib.hid (by rw [drop_cons I hiI, he])
          have hi2 : (i : Int) + 1 < (n : Int) - 1 := by have := HN.out; omega
          have f92 : ((b.toNat : Int) == 92) = true := by rw [hb92]; rfl
          clear hcell
          by_cases h34 : e = 34
          · have f34 : ((e.toNat : Int) == 34) = true := by rw [h34]; rfl
            have HE : Hid (scan (I.drop (i - 1)) = [34] ++ scan (I.drop (i + 2 - 1))) := Lib.hid (by rw [HD.out, HD2.out, hb92, h34, scan_quo]; rfl)
            clear he hb hb92 h34
            go_wp2_with (at_builtin; refine wpList_append_own _ rfl (.tmp 62) (.tmp 63) 23 rfl w2.heap.size 5 i0 (.int .u8 0) 1 1 Try.underlying23 HI.out HZ0.out HZ1.out HZ2.out rfl (by decide) _ _ _ rfl (HOWN.out.alloc _) ⟨wr.heap.size, 0, none⟩ 1 1 [.int .u8 34] rfl rfl (cells_new wr #[.int .u8 34] 5) (by simp [Value.oneCell']) (by unfold maxLen; omega) (by omega) (by simp; omega) ?_)
            intro v5 w5 hown5 hgr5 _
            have HS5 : Hid (Sc I w2 (i + 2) v5 w5) := Lib.hid (Sc.next (E := [34]) HX.out hXl (HE.out) (by simp) hown5 ((HB.out.alloc (by omega) _).grown hgr5 (by simp; omega) (fun k hk => (HOWN.out.lt k hk).1)))
            clear hown5 hgr5
            go_wp2_with fail
            go_roundg (n - (i + 2))
            case rel => exact ⟨i + 2, rfl, by omega, by omega, by go_num, HS5.out⟩
            case measure => omega
          · have f34 : ((e.toNat : Int) == 34) = false := by
              simp only [beq_eq_false_iff_ne, ne_eq]
              intro h
              exact h34 (UInt8.toNat_inj.1 (by have : e.toNat = 34 := by omega
                                               rw [this]; rfl))
            have HE : Hid (scan (I.drop (i - 1)) = [b, e] ++ scan (I.drop (i + 2 - 1))) := Lib.hid (by rw [HD.out, HD2.out, hb92, scan_esc e _ h34]; rfl)
            clear he hb hb92 h34
            go_wp2_with (at_builtin; refine wpList_append_own _ rfl (.tmp 65) (.tmp 68) 23 rfl w2.heap.size 5 i0 (.int .u8 0) 1 1 Try.underlying23 HI.out HZ0.out HZ1.out HZ2.out rfl (by decide) _ _ _ rfl (HOWN.out.alloc _) ⟨wr.heap.size, 0, none⟩ 2 2 [.int .u8 (b.toNat : Int), .int .u8 (e.toNat : Int)] rfl rfl (cells_new wr #[.int .u8 (b.toNat : Int), .int .u8 (e.toNat : Int)] 5) (by simp [Value.oneCell']) (by unfold maxLen; omega) (by omega) (by simp; omega) ?_)
            intro v5 w5 hown5 hgr5 _
            have HS5 : Hid (Sc I w2 (i + 2) v5 w5) := Lib.hid (Sc.next (E := [b, e]) HX.out hXl (HE.out) (by simp) hown5 ((HB.out.alloc (by omega) _).grown hgr5 (by simp; omega) (fun k hk => (HOWN.out.lt k hk).1)))
            clear hown5 hgr5
            go_wp2_with fail
            go_roundg (n - (i + 2))
            case rel => exact ⟨i + 2, rfl, by omega, by omega, by go_num, HS5.out⟩
            case measure => omega
        · have HE : Hid (scan (I.drop (i - 1)) = [b] ++ scan (I.drop (i + 1 - 1))) := Lib.hid (by
            rw [HD.out, Nat.add_one_sub_one]
            by_cases h92 : b = 92
            · have h' : ¬ i < I.length := fun h => hesc ⟨h92, h⟩
              have : I.drop i = [] := List.drop_eq_nil_of_le (by omega)
              rw [this]; rfl
            · exact scan_raw b _ h92)
          clear hcell
          by_cases h92 : b = 92
          · have f92 : ((b.toNat : Int) == 92) = true := by rw [h92]; rfl
            have hi2 : ¬ ((i : Int) + 1 < (n : Int) - 1) := by
              have h1 := HN.out
              have h' : ¬ i < I.length := fun h => hesc ⟨h92, h⟩
              omega
            have hi3 : decide ((i : Int) + 1 < (n : Int) - 1) = false := by simpa using hi2
            clear hb h92 hesc
            go_wp2_with (at_builtin; refine wpList_append_own _ rfl (.tmp 72) (.tmp 74) 23 rfl w2.heap.size 5 i0 (.int .u8 0) 1 1 Try.underlying23 HI.out HZ0.out HZ1.out HZ2.out rfl (by decide) _ _ _ rfl (HOWN.out.alloc _) ⟨wr.heap.size, 0, none⟩ 1 1 [.int .u8 (b.toNat : Int)] rfl rfl (cells_new wr #[.int .u8 (b.toNat : Int)] 5) (by simp [Value.oneCell']) (by unfold maxLen; omega) (by omega) (by simp; omega) ?_)
            intro v5 w5 hown5 hgr5 _
            have HS5 : Hid (Sc I w2 (i + 1) v5 w5) := Lib.hid (Sc.next (E := [b]) HX.out hXl (HE.out) (by simp) hown5 ((HB.out.alloc (by omega) _).grown hgr5 (by simp; omega) (fun k hk => (HOWN.out.lt k hk).1)))
            clear hown5 hgr5
            go_wp2_with fail
            go_roundg (n - (i + 1))
            case rel => exact ⟨i + 1, rfl, by omega, by omega, by go_num, HS5.out⟩
            case measure => omega
          · have f92 : ((b.toNat : Int) == 92) = false := by
              simp only [beq_eq_false_iff_ne, ne_eq]
              intro h
              exact h92 (UInt8.toNat_inj.1 (by have : b.toNat = 92 := by omega
                                               rw [this]; rfl))
            clear hb h92 hesc
            go_wp2_with (at_builtin; refine wpList_append_own _ rfl (.tmp 72) (.tmp 74) 23 rfl w2.heap.size 5 i0 (.int .u8 0) 1 1 Try.underlying23 HI.out HZ0.out HZ1.out HZ2.out rfl (by decide) _ _ _ rfl (HOWN.out.alloc _) ⟨wr.heap.size, 0, none⟩ 1 1 [.int .u8 (b.toNat : Int)] rfl rfl (cells_new wr #[.int .u8 (b.toNat : Int)] 5) (by simp [Value.oneCell']) (by unfold maxLen; omega) (by omega) (by simp; omega) ?_)
            intro v5 w5 hown5 hgr5 _
            have HS5 : Hid (Sc I w2 (i + 1) v5 w5) := Lib.hid (Sc.next (E := [b]) HX.out hXl (HE.out) (by simp) hown5 ((HB.out.alloc (by omega) _).grown hgr5 (by simp; omega) (fun k hk => (HOWN.out.lt k hk).1)))
            clear hown5 hgr5
            go_wp2_with fail
            go_roundg (n - (i + 1))
            case rel => exact ⟨i + 1, rfl, by omega, by omega, by go_num, HS5.out⟩
            case measure => omega
      · have HXX : Hid (X = scan I) := Lib.hid (by
          have h1 := HX.out
          rw [List.drop_eq_nil_of_le (by have := HN.out; omega)] at h1
          simpa [scan] using h1)
        have hlt' : ¬ ((i : Int) < (n : Int) - 1) := by omega
        clear hrj
        go_wp2_with (at_builtin; refine wpList_append_own _ rfl (.tmp 78) (.tmp 79) 23 rfl w2.heap.size 5 i0 (.int .u8 0) 1 1 Try.underlying23 HI.out HZ0.out HZ1.out HZ2.out rfl (by decide) _ _ _ rfl (HOWN.out.alloc _) ⟨wr.heap.size, 0, none⟩ 1 1 [.int .u8 39] rfl rfl (cells_new wr #[.int .u8 39] 5) (by simp [Value.oneCell']) (by unfold maxLen; omega) (by omega) (by simp; omega) ?_)
        intro v5 w5 hown5 hgr5 _
        have hb5 := (HB.out.alloc (by omega) (.cells #[.int .u8 39] 5)).grown hgr5 (by simp; omega) (fun k hk => (HOWN.out.lt k hk).1)
        have ho5 : w5.ownsRow w2.heap.size 5 1 v5 ns (bv S) := by
          have e1 : ns = X.length + 1 + 1 := by rw [HNS.out, HSN.out, HXX.out]; simp
          have e2 : bv S = bv (39 :: X) ++ [.int .u8 39] := by rw [HSN.out, HXX.out, bv_append]; rfl
          rw [e1, e2]; exact hown5
        obtain ⟨A5, c5, rfl, hc5, hr5⟩ := own_row ho5
        have HR5 := Lib.hid hr5
        have HR1'' := Lib.hid ((HR1'.out.below hb5).more hb5.size)
        have HB5 := Lib.hid ((HB1.out.trans (HB2.out.mono hw1)).trans (hb5.mono (by omega)))
        clear hown5 hgr5 hb5 ho5 hr5 hc5
        go_wp2_with fail
        refine (bytesEqual A1 ns c1 A5 c5 (fun p => ((S.getD p 0).toNat : Int)) w5.heap.size w5 (by omega) HR1''.out HR5.out).mono ?_
        rintro e w' ⟨rfl, m, rfl⟩
        go_wp2_with fail
        go_ret
        exact ⟨rfl, below_drewN' HB5.out m⟩
theorem fnQuoteSingleAgreesWithQuoteForJSON.walk (a0 : ByteArray) (a1 : Bool) (w : World) (w0 : a0.size ≤ maxLen) : Calls Try.prog 5 #[.string a0, .bool a1] w fun e w' => e = .returned (.bool true) ∧ Below w.heap.size w w' := by
  by_cases hs : a0.size ≤ 1048576
  · exact lawS a0 a1 w hs
  · go_enter Try.func5, Try.ntmps5
    go_wp2_with fail
    refine (zzB9 a0 a1 false (decide_eq_false hs) _ w0).mono ?_
    rintro e w' ⟨rfl, rfl⟩
    go_wp2_with fail
    go_ret
    exact ⟨rfl, Below.refl _ _⟩
end Go.Proofs.Ytdpacomlnipfgaa
