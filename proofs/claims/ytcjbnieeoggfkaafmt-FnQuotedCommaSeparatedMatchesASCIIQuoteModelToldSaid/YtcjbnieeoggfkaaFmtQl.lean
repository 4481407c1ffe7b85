/- The walks of zzQuoteListASCII, zzStrBytes, zzAllASCII. -/
import Derived.Test.YtcjbnieeoggfkaaFmtQq
import Derived.Lib.AppendStr
namespace Go.Proofs.YtcjbnieeoggfkaaFmt
open Go.RowKit
set_option linter.unusedVariables false
set_option linter.unusedSimpArgs false

theorem joinQ_succ (f : Nat → ByteArray) (k : Nat) : joinQ f (k + 1) = joinQ f k ++ ((if k = 0 then [] else [44, 32]) ++ quo (f k)) := rfl
set_option maxHeartbeats 4000000 in
theorem quoteListA (A : Option Addr) (n c : Nat) (f : Nat → ByteArray) (B : Nat) (w : World) (h : RowF w B A n (fun i => .string (f i))) (hB : B ≤ w.heap.size) (hn : n + tot f n ≤ 1048576) (hs : ∀ i, i < n → Asc (f i)) :
    Calls Tryf.prog 9 #[.slice A n c] w fun e w' => e = .returned (.string ⟨(joinQ f n).toArray⟩) ∧ Below w.heap.size w w' := by
  have H := Lib.hid h
  have HS := Lib.hid hs
  obtain ⟨i0, hi, hz0, hz1, hz2⟩ := info_parts Tryf.info5
  have HI := Lib.hid hi
  have HZ0 := Lib.hid hz0
  have HZ1 := Lib.hid hz1
  have HZ2 := Lib.hid hz2
  clear h hs hi hz0 hz1 hz2
  go_enter Tryf.func9, Tryf.ntmps9
  go_wp2_with fail
  go_loopg [3, 4] n (fun g v z wr => ∃ (k : Nat) (L : List UInt8), k ≤ n ∧ g = n - k ∧ z = .int .i64 k ∧ Hid (L = joinQ f k) ∧ wr.ownsRow w.heap.size 5 1 v L.length (bv L) ∧ Below w.heap.size w wr)
  case atStart => exact ⟨0, [], Nat.zero_le _, rfl, rfl, Lib.hid rfl, World.ownsRow_made w #[] 0 (Nat.le_refl _) (Nat.zero_le _) rfl, (Below.refl _ _).alloc (Nat.le_refl _) _⟩
  case round =>
    obtain ⟨k, L, hk, rfl, rfl, HL, ho, hb⟩ := hrel
    have HOWN := Lib.hid ho
    have HB := Lib.hid hb
    have hws := hb.size
    have hLl : L.length ≤ 4 * tot f k + 4 * k := by rw [HL.out]; exact joinQ_len f k
    by_cases hlt : k < n
    · obtain ⟨b, o, rfl, hbb, hc⟩ := H.out.at_ hlt
      have hc' : wr.cell? ⟨b, o + k, none⟩ = some (.string (f k)) := (hb.cell (p := ⟨b, o + k, none⟩) (Nat.lt_of_lt_of_le hbb hB)).trans hc
      have ht1 := tot_at f hlt
      have hql := quo_len (f k)
      have has := HS.out k hlt
      have HAS := Lib.hid has
      have HC := Lib.hid hc
      clear ho hb has hc
      by_cases h0 : 0 < k
      · go_wp2_with (at_builtin; refine wpList_append_own _ rfl (.tmp 14) (.tmp 15) 28 rfl w.heap.size 5 i0 (.int .u8 0) 1 1 Tryf.underlying28 HI.out HZ0.out HZ1.out HZ2.out rfl (by decide) _ _ _ rfl (HOWN.out.alloc _) ⟨wr.heap.size, 0, none⟩ 2 2 [.int .u8 44, .int .u8 32] rfl rfl (cells_new wr #[.int .u8 44, .int .u8 32] 5) (by simp [Value.oneCell']) (by unfold maxLen; omega) (by omega) (by simp; omega) ?_)
        intro v2 w2 hown2 hgr2 _
        have hown3 : w2.ownsRow w.heap.size 5 1 v2 (L ++ [44, 32]).length (bv (L ++ [44, 32])) := by
          rw [bv_append, List.length_append]
          exact hown2
        have HO3 := Lib.hid hown3
        have HB3 : Hid (Below w.heap.size w w2) := Lib.hid ((HB.out.alloc hws _).grown hgr2 (by simp; omega) (fun q hq => (HOWN.out.lt q hq).1))
        have hws2 := HB3.out.size
        have hc2 : w2.cell? ⟨b, o + k, none⟩ = some (.string (f k)) := (HB3.out.cell (p := ⟨b, o + k, none⟩) (Nat.lt_of_lt_of_le hbb hB)).trans HC.out
        have HM : Hid ((L ++ [44, 32]) ++ quo (f k) = joinQ f (k + 1)) := Lib.hid (by rw [joinQ_succ, if_neg (by omega), HL.out]; simp)
        have hml : (L ++ [44, 32]).length = L.length + 2 := by simp
        generalize L ++ [44, 32] = M at *
        clear hown2 hgr2 hown3 hc'
        go_wp2_with fail
        refine (quoteA (f k) HAS.out (by omega) _).mono ?_
        rintro e w3 ⟨rfl, hb3⟩
        have HO4 := Lib.hid (own_below HO3.out hb3)
        have HB4 : Hid (Below w.heap.size w w3) := Lib.hid (HB3.out.trans (hb3.mono hws2))
        have hws3 := HB4.out.size
        have hqs : (⟨(quo (f k)).toArray⟩ : ByteArray).size = (quo (f k)).length := rfl
        clear hb3 hc2
        go_wp2_with (at_builtin; refine Lib.wpList_append_own_string _ rfl (.tmp 17) (.tmp 22) 28 9 rfl w.heap.size 5 i0 Tryf.underlying28 Tryf.underlying9 HI.out HZ0.out HZ1.out HZ2.out _ _ _ rfl HO4.out ⟨(quo (f k)).toArray⟩ rfl (by unfold maxLen; omega) (by omega) (by omega) ?_)
        intro v4 w4 hown4 hgr4 _
        have hown5 : w4.ownsRow w.heap.size 5 1 v4 (M ++ quo (f k)).length (bv (M ++ quo (f k))) := by
          rw [bv_append, List.length_append, hml]
          exact hown4
        have HO5 := Lib.hid hown5
        have HB5 : Hid (Below w.heap.size w w4) := Lib.hid (HB4.out.grown hgr4 (by omega) (fun q hq => (HO4.out.lt q hq).1))
        clear hown4 hgr4 hown5
        go_wp2_with fail
        go_roundg (n - (k + 1))
        case rel => exact ⟨k + 1, M ++ quo (f k), by omega, rfl, by go_num, HM, HO5.out, HB5.out⟩
        case measure => omega
      · have HM : Hid (L ++ quo (f k) = joinQ f (k + 1)) := Lib.hid (by rw [joinQ_succ, if_pos (by omega), HL.out]; simp)
        go_wp2_with fail
        refine (quoteA (f k) HAS.out (by omega) _).mono ?_
        rintro e w3 ⟨rfl, hb3⟩
        have HO4 := Lib.hid (own_below HOWN.out hb3)
        have HB4 : Hid (Below w.heap.size w w3) := Lib.hid (HB.out.trans (hb3.mono hws))
        have hws3 := HB4.out.size
        have hqs : (⟨(quo (f k)).toArray⟩ : ByteArray).size = (quo (f k)).length := rfl
        clear hb3 hc'
        go_wp2_with (at_builtin; refine Lib.wpList_append_own_string _ rfl (.tmp 17) (.tmp 22) 28 9 rfl w.heap.size 5 i0 Tryf.underlying28 Tryf.underlying9 HI.out HZ0.out HZ1.out HZ2.out _ _ _ rfl HO4.out ⟨(quo (f k)).toArray⟩ rfl (by unfold maxLen; omega) (by omega) (by omega) ?_)
        intro v4 w4 hown4 hgr4 _
        have hown5 : w4.ownsRow w.heap.size 5 1 v4 (L ++ quo (f k)).length (bv (L ++ quo (f k))) := by
          rw [bv_append, List.length_append]
          exact hown4
        have HO5 := Lib.hid hown5
        have HB5 : Hid (Below w.heap.size w w4) := Lib.hid (HB4.out.grown hgr4 (by omega) (fun q hq => (HO4.out.lt q hq).1))
        clear hown4 hgr4 hown5
        go_wp2_with fail
        go_roundg (n - (k + 1))
        case rel => exact ⟨k + 1, L ++ quo (f k), by omega, rfl, by go_num, HM, HO5.out, HB5.out⟩
        case measure => omega
    · have hkn : k = n := by omega
      subst hkn
      clear ho hb
      obtain ⟨A', c', hv, hr⟩ := own_row HOWN.out
      subst hv
      have hcv := conv_row (P := Tryf.prog) (c := c') hr 28 5 9 Tryf.underlying28 Tryf.underlying5 Tryf.underlying9
      rw [text_of] at hcv
      clear hr
      go_wp2_with fail
      go_ret
      exact ⟨by rw [← HL.out]; rfl, HB.out⟩

def SomeBytes (n : Nat) (w : World) (e : Ending) (w' : World) : Prop := ∃ r : Int, e = .returned (.int .i64 r) ∧ w = w' ∧ 0 ≤ r ∧ r ≤ 1048577
theorem strBytes (A : Option Addr) (n c : Nat) (f : Nat → ByteArray) (B : Nat) (w : World) (h : RowF w B A n (fun i => .string (f i))) (hn : n + tot f n ≤ 1048576) : Calls Tryf.prog 5 #[.slice A n c] w (SomeBytes n w) := by
  have H := Lib.hid h
  clear h
  go_enter Tryf.func5, Tryf.ntmps5
  go_wp2_with fail
  go_loopg [3, 4] n (fun g s z wr => w = wr ∧ ∃ k T : Nat, k ≤ n ∧ g = n - k ∧ s = .int .i64 (T : Int) ∧ T ≤ 1048576 ∧ z = .int .i64 k)
  case atStart => exact ⟨rfl, 0, 0, Nat.zero_le _, rfl, rfl, by omega, rfl⟩
  case round =>
    obtain ⟨rfl, k, T, hk, rfl, rfl, hT, rfl⟩ := hrel
    by_cases hlt : k < n
    · obtain ⟨b, o, rfl, hb, hc⟩ := H.out.at_ hlt
      have ht := tot_at f hlt
      by_cases g2 : T + (16 + (f k).size) ≤ 1048576
      · go_wp2_with fail
        go_roundg (n - (k + 1))
        case rel => exact ⟨rfl, k + 1, T + (16 + (f k).size), by omega, rfl, by go_num, by omega, by go_num⟩
        case measure => omega
      · go_wp2_with fail
        go_ret
        exact ⟨_, rfl, rfl, by omega, by omega⟩
    · go_wp2_with fail
      go_ret
      exact ⟨_, rfl, rfl, by omega, by omega⟩

set_option maxRecDepth 100000 in
theorem allASCII (A : Option Addr) (n c : Nat) (f : Nat → ByteArray) (B : Nat) (w : World) (h : RowF w B A n (fun i => .string (f i))) (hn : n + tot f n ≤ 1048576) :
    Calls Tryf.prog 6 #[.slice A n c] w fun e w' => ∃ b : Bool, e = .returned (.bool b) ∧ w = w' ∧ (b = true → ∀ i, i < n → Asc (f i)) := by
  have H := Lib.hid h
  clear h
  go_enter Tryf.func6, Tryf.ntmps6
  go_wp2_with fail
  go_loopg [3] n (fun g z wr => w = wr ∧ ∃ k : Nat, k ≤ n ∧ g = n - k ∧ z = .int .i64 k ∧ Hid (∀ i, i < k → Asc (f i)))
  case atStart => exact ⟨rfl, 0, Nat.zero_le _, rfl, rfl, Lib.hid fun i hi => absurd hi (by omega)⟩
  case round =>
    obtain ⟨rfl, k, hk, rfl, rfl, HA⟩ := hrel
    by_cases hlt : k < n
    · obtain ⟨b, o, rfl, hb, hc⟩ := H.out.at_ hlt
      have ht := tot_at f hlt
      generalize hsk : f k = s at *
      go_wp2_with fail
      go_loopg [5] s.size (fun g z wr => w = wr ∧ ∃ j : Nat, j ≤ s.size ∧ g = s.size - j ∧ z = .int .i64 j ∧ Hid (∀ i, i < j → s.get! i < 128))
      case atStart => exact ⟨rfl, 0, Nat.zero_le _, rfl, rfl, Lib.hid fun i hi => absurd hi (by omega)⟩
      case round =>
        obtain ⟨rfl, j, hj, rfl, rfl, HJ⟩ := hrel
        by_cases hjt : j < s.size
        · obtain ⟨x, hx⟩ : ∃ x, (s[j]'hjt).toNat = x := ⟨_, rfl⟩
          have HX := Lib.hid hx
          by_cases h8 : x < 128
          · go_wp2_with fail
            go_roundg (s.size - (j + 1))
            case rel =>
              refine ⟨rfl, j + 1, by omega, rfl, by go_num, Lib.hid fun i hi => ?_⟩
              by_cases e : i = j
              · subst e
                rw [get_bang s i hjt]
                have e2 : s.data.toList[i]'(by simpa using hjt) = s[i]'hjt := by simp; rfl
                rw [e2, UInt8.lt_iff_toNat_lt, HX.out]
                exact h8
              · exact HJ.out i (by omega)
            case measure => omega
          · go_wp2_with fail
            go_ret
            exact ⟨_, rfl, rfl, fun h => by cases h⟩
        · go_wp2_with fail
          go_roundg (n - (k + 1))
          case rel =>
            refine ⟨rfl, k + 1, by omega, rfl, by go_num, Lib.hid fun i hi => ?_⟩
            by_cases e : i = k
            · subst e
              intro i' hi'
              rw [hsk] at hi' ⊢
              exact HJ.out i' (by omega)
            · exact HA.out i (by omega)
          case measure => omega
    · go_wp2_with fail
      go_ret
      exact ⟨_, rfl, rfl, fun _ i hi => HA.out i (by omega)⟩
end Go.Proofs.YtcjbnieeoggfkaaFmt
