/- zzBuildMsgs: a row of raw messages. -/
import Derived.Test.YtnccjpkeaapefaaMi
import Derived.Test.YtnccjpkeaapefaaMn
namespace Go.Proofs.Ytnccjpkeaapefaa
open Go.RowKit
set_option linter.unusedVariables false
set_option linter.unusedSimpArgs false
theorem noteText' (k : Nat) : ∃ t, ∀ w, Calls Try.prog 13 #[.int .i64 k] w fun e w' => e = .returned (.string t) ∧ w' = w := by
  by_cases h0 : k = 0
  · subst h0
    refine ⟨⟨#[110, 48]⟩, fun w => ?_⟩
    go_enter Try.func13, Try.ntmps13
    go_wp2
    go_ret
    exact ⟨rfl, rfl⟩
  · by_cases h1 : k = 1
    · subst h1
      refine ⟨⟨#[110, 49]⟩, fun w => ?_⟩
      go_enter Try.func13, Try.ntmps13
      go_wp2
      go_ret
      exact ⟨rfl, rfl⟩
    · refine ⟨⟨#[110, 50]⟩, fun w => ?_⟩
      have e0 : ((k : Int) == 0) = false := by simp; omega
      have e1 : ((k : Int) == 1) = false := by simp; omega
      go_enter Try.func13, Try.ntmps13
      go_wp2
      all_goals go_ret
      all_goals exact ⟨rfl, rfl⟩
set_option maxRecDepth 100000 in
set_option maxHeartbeats 4000000 in
theorem build7 (A0 A1 A2 A3 A4 : Option Addr) (n0 c0 n1 c1 n2 c2 n3 c3 n4 c4 : Nat) (f0 f1 f4 : Nat → Int) (f2 f3 : Nat → ByteArray) (w : World) (h0 : InInts .u8 w A0 n0 c0 f0) (h1 : InInts .u8 w A1 n1 c1 f1) (h2 : InStrs w A2 n2 c2 f2) (h3 : InStrs w A3 n3 c3 f3) (h4 : InInts .u8 w A4 n4 c4 f4)
    (hn0 : n0 ≤ 4096) (hn1 : n1 ≤ 4096) (hn2 : n2 ≤ 4096) (hn3 : n3 ≤ 4096) (hn4 : n4 ≤ 4096) (hs2 : ∀ i, i < n2 → (f2 i).size ≤ 1048576) (hs3 : ∀ i, i < n3 → (f3 i).size ≤ 1048576) :
    Calls Try.prog 7 #[.slice A0 n0 c0, .slice A1 n1 c1, .slice A2 n2 c2, .slice A3 n3 c3, .slice A4 n4 c4] w fun e w' => ∃ g c M, e = .returned (.slice (some ⟨g, 0, none⟩) n0 c) ∧ n0 ≤ c ∧ c ≤ maxLen ∧ RawRow w' (fun b => w.heap.size ≤ b) (some ⟨g, 0, none⟩) n0 M ∧ Below w.heap.size w w' := by
  have H0 := Lib.hid h0
  have H1 := Lib.hid h1
  have H2 := Lib.hid h2
  have H3 := Lib.hid h3
  have H4 := Lib.hid h4
  have S2 := Lib.hid hs2
  have S3 := Lib.hid hs3
  clear h0 h1 h2 h3 h4 hs2 hs3
  obtain ⟨i0, hi, hz0, hz1, hz2⟩ := info_parts infoRawNote
  have HI := Lib.hid hi
  have HZ0 := Lib.hid hz0
  have HZ1 := Lib.hid hz1
  have HZ2 := Lib.hid hz2
  clear hi hz0 hz1 hz2
  obtain ⟨j0, hi, hz0, hz1, hz2⟩ := info_parts infoRawMsg
  have GI := Lib.hid hi
  have GZ0 := Lib.hid hz0
  have GZ1 := Lib.hid hz1
  have GZ2 := Lib.hid hz2
  clear hi hz0 hz1
  go_enter Try.func7, Try.ntmps7
  go_wp2_with (refine wpList_make_own _ rfl (.const (.int .i64 0)) (.tmp 21) 27 rfl w.heap.size 51 j0 _ 8 Try.underlying27 GI.out GZ0.out GZ1.out .i64 .i64 (n0 : Int) n0 rfl rfl rfl (by rw [hz2]; omega) (by unfold maxLen; omega) (Nat.le_refl _) ?_; intro w1 hown1 hgr1; have HOWN1 := Lib.hid hown1; have HB1 := Lib.hid ((Below.refl w.heap.size w).grown hgr1 (Nat.le_refl _) (fun k hk => by cases hk)); clear hown1 hgr1 hz2)
  go_loopg [11, 12] n0 (fun q s i wr => ∃ (k g c : Nat) (M : Nat → MsgR), k ≤ n0 ∧ q = n0 - k ∧ i = .int .i64 k ∧ s = .slice (some ⟨g, 0, none⟩) k c ∧ Hid (∃ xs, wr.ownsRow w.heap.size 51 8 (.slice (some ⟨g, 0, none⟩) k c) k xs ∧ RawMsgsAt wr (Zt w.heap.size 51 wr) xs k M) ∧ Hid (Below w.heap.size w wr))
  case atStart => exact ⟨0, w.heap.size, n0, fun _ => ⟨⟨#[]⟩, ⟨#[]⟩, none, 0, fun _ => ⟨#[]⟩, fun _ => none, 0, 0⟩, Nat.zero_le _, rfl, rfl, rfl, Lib.hid ⟨[], HOWN1.out, RawMsgsAt.nil _ _ _⟩, HB1⟩
  case round =>
    obtain ⟨k, g, c, M, hk, rfl, rfl, rfl, HP, HB⟩ := hrel
    by_cases hkn : k < n0
    · go_wp2_with (first
        | (go_at_call 11; refine (pickBx A4 n4 c4 w.heap.size f4 k _ (H4.out.row.below HB.out) (by omega) (by omega) H4.out.wf).mono ?_; rintro e w2 ⟨nb, rfl, hb0, hb1, rfl⟩)
        | (go_at_call 12; refine (pickSx A2 n2 c2 w.heap.size f2 k _ (H2.out.row.below HB.out) (by omega) (by omega) S2.out).mono ?_; rintro e w2 ⟨tx, rfl, hts, rfl⟩))
      obtain ⟨N, hN, hN3⟩ : ∃ N : Nat, nb % 4 = (N : Int) ∧ N < 4 := ⟨(nb % 4).toNat, by omega, by omega⟩
      rw [hN]
      clear hN
      have hWs : w.heap.size ≤ w2.heap.size := HB.out.size
      go_loopg [16, 17] N (fun q s i wy => ∃ (j : Nat) (An' : Option Addr) (cn' : Nat) (T : Nat → ByteArray) (O : Nat → Option LocA), j ≤ N ∧ q = N - j ∧ i = .int .i64 j ∧ s = .slice An' j cn' ∧ Hid ((j = 0 → An' = none ∧ cn' = 0) ∧ ∃ ys, wy.ownsRow w2.heap.size 48 4 (.slice An' j cn') j ys ∧ RawNotesAt wy (ZR w2.heap.size wy) ys j T O) ∧ Hid (Below w2.heap.size w2 wy))
      case atStart => exact ⟨0, none, 0, fun _ => ⟨#[]⟩, fun _ => none, Nat.zero_le _, rfl, rfl, rfl, Lib.hid ⟨fun _ => ⟨rfl, rfl⟩, [], World.ownsRow_nil _ _ _ _, RawNotesAt.nil _ _ _ _⟩, Lib.hid (Below.refl _ _)⟩
      case round =>
        obtain ⟨j, An', cn', T, O, hj, rfl, rfl, rfl, HN2, HBY⟩ := hrel
        by_cases hjn : j < N
        · obtain ⟨t, ht⟩ := noteText' j
          have NT := Lib.hid ht
          clear ht
          obtain ⟨hnil, ys, hoy, hny⟩ := HN2.out
          have HO0 := Lib.hid hoy
          have HN0 := Lib.hid hny
          clear hoy hny hnil
          have hYs : w2.heap.size ≤ wr.heap.size := HBY.out.size
          cases h8 : (bits .and .u8 nb 8 != 0)
          · go_wp2_with (first
              | (go_at_call 13; refine (NT.out _).mono ?_; rintro e w3 ⟨rfl, hw3⟩; have HLV : Hid (∃ o, IsRaw w3 (ZR w2.heap.size w3) (.pointer none) o) := Lib.hid ⟨none, rfl⟩; have HB3 : Hid (Below wr.heap.size wr w3) := Lib.hid (by rw [hw3]; exact Below.refl _ _); clear hw3)
              | (at_builtin; refine wpList_append_lies _ rfl (.tmp 51) (.tmp 56) 40 rfl w2.heap.size 48 i0 _ 4 48 Try.underlying40 HI.out HZ0.out HZ1.out HZ2.out rfl (by decide) (.slice An' j cn') j ys rfl ((own_below HO0.out HB3.out).alloc _) ⟨w3.heap.size, 0, none⟩ 1 1 [.nilIface, .pointer none, .string t, .bool false] rfl rfl (World.news_of_block (cs := #[.nilIface, .pointer none, .string t, .bool false]) (heap_alloc_new w3 _)) (by simp [Value.oneCell']) (by omega) (by unfold maxLen; omega) (by omega) (by have := HB3.out.size; simp; omega) (w3.heap.size + 1) (by simp) ?_; intro g2 cap w4 hown hgr hat hlt4; have HOWN := Lib.hid hown; have HGR := Lib.hid hgr; clear hown hgr hat hlt4))
            go_roundg (N - (j + 1))
            case rel =>
              rw [show ((j : Int) + 1) = ((j + 1 : Nat) : Int) by omega]
              obtain ⟨o, ho⟩ := HLV.out
              exact ⟨j + 1, some ⟨g2, 0, none⟩, cap, _, _, by omega, rfl, rfl, rfl, Lib.hid ⟨fun h => absurd h (by omega), _, HOWN.out, RawNotesAt.step ((HN0.out.below HB3.out).below ((Below.refl _ _).alloc (Nat.le_refl _) _)) ((own_below HO0.out HB3.out).alloc _) HGR.out (ho.zrBelow ((Below.refl _ _).alloc (Nat.le_refl _) _))⟩, Lib.hid (below_grown ((HBY.out.trans (HB3.out.mono hYs)).alloc (Nat.le_trans hYs HB3.out.size) _) ((own_below HO0.out HB3.out).alloc _) HGR.out (Nat.le_refl _) (by have := HB3.out.size; simp; omega))⟩
            case measure => omega
          · go_wp2_with (first
              | (go_at_call 13; refine (NT.out _).mono ?_; rintro e w3 ⟨rfl, hw3⟩; have HLV : Hid (∃ o, IsRaw w3 (ZR w2.heap.size w3) (.pointer (some ⟨wr.heap.size, 0, none⟩)) o) := Lib.hid ⟨some ⟨⟨#[97]⟩, ⟨#[114]⟩, ⟨#[]⟩, ⟨#[]⟩, ⟨#[]⟩, (j : Int) + 1, 0, 0⟩, wr.heap.size, rfl, ⟨hYs, _, by rw [hw3]; exact heap_alloc_new wr _⟩, Raw.of (by rw [hw3]; exact heap_alloc_new wr _)⟩; have HB3 : Hid (Below wr.heap.size wr w3) := Lib.hid (by rw [hw3]; exact (Below.refl _ _).alloc (Nat.le_refl _) _); clear hw3)
              | (at_builtin; refine wpList_append_lies _ rfl (.tmp 51) (.tmp 56) 40 rfl w2.heap.size 48 i0 _ 4 48 Try.underlying40 HI.out HZ0.out HZ1.out HZ2.out rfl (by decide) (.slice An' j cn') j ys rfl ((own_below HO0.out HB3.out).alloc _) ⟨w3.heap.size, 0, none⟩ 1 1 [.nilIface, .pointer (some ⟨wr.heap.size, 0, none⟩), .string t, .bool false] rfl rfl (World.news_of_block (cs := #[.nilIface, .pointer (some ⟨wr.heap.size, 0, none⟩), .string t, .bool false]) (heap_alloc_new w3 _)) (by simp [Value.oneCell']) (by omega) (by unfold maxLen; omega) (by omega) (by have := HB3.out.size; simp; omega) (w3.heap.size + 1) (by simp) ?_; intro g2 cap w4 hown hgr hat hlt4; have HOWN := Lib.hid hown; have HGR := Lib.hid hgr; clear hown hgr hat hlt4))
            go_roundg (N - (j + 1))
            case rel =>
              rw [show ((j : Int) + 1) = ((j + 1 : Nat) : Int) by omega]
              obtain ⟨o, ho⟩ := HLV.out
              exact ⟨j + 1, some ⟨g2, 0, none⟩, cap, _, _, by omega, rfl, rfl, rfl, Lib.hid ⟨fun h => absurd h (by omega), _, HOWN.out, RawNotesAt.step ((HN0.out.below HB3.out).below ((Below.refl _ _).alloc (Nat.le_refl _) _)) ((own_below HO0.out HB3.out).alloc _) HGR.out (ho.zrBelow ((Below.refl _ _).alloc (Nat.le_refl _) _))⟩, Lib.hid (below_grown ((HBY.out.trans (HB3.out.mono hYs)).alloc (Nat.le_trans hYs HB3.out.size) _) ((own_below HO0.out HB3.out).alloc _) HGR.out (Nat.le_refl _) (by have := HB3.out.size; simp; omega))⟩
            case measure => omega
        · have hjj : j = N := by omega
          subst hjj
          have hYs : w2.heap.size ≤ wr.heap.size := HBY.out.size
          have hYW : w.heap.size ≤ wr.heap.size := by omega
          have ht1 : (⟨#[65]⟩ : ByteArray).size + tx.size ≤ 9223372036854775807 := by have : (⟨#[65]⟩ : ByteArray).size = 1 := rfl; omega
          have ht2 : (⟨#[82]⟩ : ByteArray).size + tx.size ≤ 9223372036854775807 := by have : (⟨#[82]⟩ : ByteArray).size = 1 := rfl; omega
          cases h4 : (bits .and .u8 nb 4 != 0)
          · go_wp2_with fail
            have HLV : Hid (∃ o, IsRaw wr (Zt w.heap.size 51 wr) (.pointer none) o) := Lib.hid ⟨none, rfl⟩
            have HBl : Hid (Below wr.heap.size wr wr) := Lib.hid (Below.refl _ _)
            obtain ⟨hnil, ys, hoy, hny⟩ := HN2.out
            have HNO : Hid (IsRawNotes wr (Zt w.heap.size 51 wr) (.slice An' j cn') j T O) := Lib.hid ((hny.isZt hoy hWs (fun h => by obtain ⟨rfl, rfl⟩ := hnil h; rw [h])).ztBelow HBl.out)
            obtain ⟨xs, hox, hmx⟩ := HP.out
            have HX := Lib.hid (own_below (own_below hox (HBY.out)) HBl.out)
            have HM := Lib.hid ((hmx.below HBY.out).below HBl.out)
            have HWW := Lib.hid ((HB.out.trans (HBY.out.mono hWs)).trans (HBl.out.mono hYW))
            clear hnil hoy hny hox hmx
            obtain ⟨b, o, rfl, hbw, hc⟩ := H0.out.row.at_ hkn
            have e0 : wr.cell? ⟨b, o + k, none⟩ = some (.int .u8 (f0 k)) := (HWW.out.cell hbw).trans hc
            have hWW : w.heap.size ≤ wr.heap.size := HWW.out.size
            clear hc
            go_region_held3 (fun w' => w'.cell? ⟨b, o + k, none⟩ = some (.int .u8 (f0 k)))
              (first
                | assumption
                | exact cell_alloc_old _ (by assumption))
              (first
                | (go_at_call 11; refine (pickBx A1 n1 c1 w.heap.size f1 k _ (H1.out.row.below HWW.out.drew) (by omega) (by omega) H1.out.wf).mono ?_; rintro e w5 ⟨iv, rfl, hi0, hi1, rfl⟩)
                | (go_at_call 12; refine (pickSx A3 n3 c3 w.heap.size f3 k _ (H3.out.row.below HWW.out.drew) (by omega) (by omega) S3.out).mono ?_; rintro e w5 ⟨pl, rfl, hps, rfl⟩)
                | (refine step_append_lies _ (by rfl) (.tmp 72) (.tmp 88) 27 (by rfl) w.heap.size 51 j0 _ 8 96 Try.underlying27 GI.out GZ0.out GZ1.out GZ2.out rfl (by decide) (.slice (some ⟨g, 0, none⟩) k c) k xs (by rfl) ((own_below HX.out ((Below.refl _ _).drew)).alloc _) ⟨wr.heap.size, 0, none⟩ 1 1 [.slice An' j cn', .string pl, .nilIface, .pointer none, .string tx, .bool false, .int .u8 (f0 k), .int .u8 iv] (by rfl) (by rfl) (World.news_of_block (cs := #[.slice An' j cn', .string pl, .nilIface, .pointer none, .string tx, .bool false, .int .u8 (f0 k), .int .u8 iv]) (heap_alloc_new wr.drew _)) (by simp [Value.oneCell']) (by omega) (by unfold maxLen; omega) (by omega) (by simp; omega) (wr.heap.size + 1) (by simp) ?_; intro g2 cap w4 hown hgr hat hlt4; have hf0 := ((below_grown (Below.refl w.heap.size _) ((own_below HX.out ((Below.refl _ _).drew)).alloc _) hgr (Nat.le_refl _) (by simp; omega)).cell (p := ⟨b, o + k, none⟩) hbw).trans (cell_alloc_old _ (show wr.drew.cell? _ = _ from e0)); have HOWN := Lib.hid hown; have HGR := Lib.hid hgr; clear hown hgr hat hlt4))
            all_goals go_wp2_with fail
            all_goals go_roundg (n0 - (k + 1))
            all_goals first
              | omega
              | (rw [show ((k : Int) + 1) = ((k + 1 : Nat) : Int) by omega]
                 obtain ⟨lo, hlo⟩ := HLV.out
                 exact ⟨k + 1, g2, cap, _, by omega, rfl, rfl, rfl, Lib.hid ⟨_, HOWN.out, RawMsgsAt.step (m := ⟨pl, tx, lo, j, T, O, f0 k, iv⟩) (HM.out.below (((Below.refl _ _).drew).alloc (Nat.le_refl _) _)) ((own_below HX.out ((Below.refl _ _).drew)).alloc _) HGR.out hi0 (by show j ≤ 1048576; omega) (hlo.ztBelow (((Below.refl _ _).drew).alloc (Nat.le_refl _) _)) (HNO.out.ztBelow (((Below.refl _ _).drew).alloc (Nat.le_refl _) _))⟩, Lib.hid (below_grown (HWW.out.drew.alloc hWW _) ((own_below HX.out ((Below.refl _ _).drew)).alloc _) HGR.out (Nat.le_refl _) (by simp; omega))⟩)
          · go_wp2_with fail
            obtain ⟨wl, hwl⟩ : ∃ wl, wl = wr.alloc (Obj.cells #[Value.string (⟨#[65]⟩ ++ tx), Value.string (⟨#[82]⟩ ++ tx), Value.string ⟨#[110, 115]⟩, Value.string tx, Value.string ⟨#[]⟩, Value.int IntKind.i64 ((k : Int) + 1), Value.int IntKind.i64 (k : Int), Value.int IntKind.i64 1] 45) := ⟨_, rfl⟩
            rw [← hwl]
            have HLV : Hid (∃ o, IsRaw wl (Zt w.heap.size 51 wl) (.pointer (some ⟨wr.heap.size, 0, none⟩)) o) := Lib.hid ⟨some ⟨⟨#[65]⟩ ++ tx, ⟨#[82]⟩ ++ tx, ⟨#[110, 115]⟩, tx, ⟨#[]⟩, (k : Int) + 1, k, 1⟩, wr.heap.size, rfl, ⟨hYW, _, _, by rw [hwl]; exact heap_alloc_new wr _, by decide⟩, Raw.of (by rw [hwl]; exact heap_alloc_new wr _)⟩
            have HBl : Hid (Below wr.heap.size wr wl) := Lib.hid (by rw [hwl]; exact (Below.refl _ _).alloc (Nat.le_refl _) _)
            clear hwl
            obtain ⟨hnil, ys, hoy, hny⟩ := HN2.out
            have HNO : Hid (IsRawNotes wl (Zt w.heap.size 51 wl) (.slice An' j cn') j T O) := Lib.hid ((hny.isZt hoy hWs (fun h => by obtain ⟨rfl, rfl⟩ := hnil h; rw [h])).ztBelow HBl.out)
            obtain ⟨xs, hox, hmx⟩ := HP.out
            have HX := Lib.hid (own_below (own_below hox (HBY.out)) HBl.out)
            have HM := Lib.hid ((hmx.below HBY.out).below HBl.out)
            have HWW := Lib.hid ((HB.out.trans (HBY.out.mono hWs)).trans (HBl.out.mono hYW))
            clear hnil hoy hny hox hmx
            obtain ⟨b, o, rfl, hbw, hc⟩ := H0.out.row.at_ hkn
            have e0 : wl.cell? ⟨b, o + k, none⟩ = some (.int .u8 (f0 k)) := (HWW.out.cell hbw).trans hc
            have hWW : w.heap.size ≤ wl.heap.size := HWW.out.size
            clear hc
            go_region_held3 (fun w' => w'.cell? ⟨b, o + k, none⟩ = some (.int .u8 (f0 k)))
              (first
                | assumption
                | exact cell_alloc_old _ (by assumption))
              (first
                | (go_at_call 11; refine (pickBx A1 n1 c1 w.heap.size f1 k _ (H1.out.row.below HWW.out.drew) (by omega) (by omega) H1.out.wf).mono ?_; rintro e w5 ⟨iv, rfl, hi0, hi1, rfl⟩)
                | (go_at_call 12; refine (pickSx A3 n3 c3 w.heap.size f3 k _ (H3.out.row.below HWW.out.drew) (by omega) (by omega) S3.out).mono ?_; rintro e w5 ⟨pl, rfl, hps, rfl⟩)
                | (refine step_append_lies _ (by rfl) (.tmp 72) (.tmp 88) 27 (by rfl) w.heap.size 51 j0 _ 8 96 Try.underlying27 GI.out GZ0.out GZ1.out GZ2.out rfl (by decide) (.slice (some ⟨g, 0, none⟩) k c) k xs (by rfl) ((own_below HX.out ((Below.refl _ _).drew)).alloc _) ⟨wl.heap.size, 0, none⟩ 1 1 [.slice An' j cn', .string pl, .nilIface, .pointer (some ⟨wr.heap.size, 0, none⟩), .string tx, .bool false, .int .u8 (f0 k), .int .u8 iv] (by rfl) (by rfl) (World.news_of_block (cs := #[.slice An' j cn', .string pl, .nilIface, .pointer (some ⟨wr.heap.size, 0, none⟩), .string tx, .bool false, .int .u8 (f0 k), .int .u8 iv]) (heap_alloc_new wl.drew _)) (by simp [Value.oneCell']) (by omega) (by unfold maxLen; omega) (by omega) (by simp; omega) (wl.heap.size + 1) (by simp) ?_; intro g2 cap w4 hown hgr hat hlt4; have hf0 := ((below_grown (Below.refl w.heap.size _) ((own_below HX.out ((Below.refl _ _).drew)).alloc _) hgr (Nat.le_refl _) (by simp; omega)).cell (p := ⟨b, o + k, none⟩) hbw).trans (cell_alloc_old _ (show wl.drew.cell? _ = _ from e0)); have HOWN := Lib.hid hown; have HGR := Lib.hid hgr; clear hown hgr hat hlt4))
            all_goals go_wp2_with fail
            all_goals go_roundg (n0 - (k + 1))
            all_goals first
              | omega
              | (rw [show ((k : Int) + 1) = ((k + 1 : Nat) : Int) by omega]
                 obtain ⟨lo, hlo⟩ := HLV.out
                 exact ⟨k + 1, g2, cap, _, by omega, rfl, rfl, rfl, Lib.hid ⟨_, HOWN.out, RawMsgsAt.step (m := ⟨pl, tx, lo, j, T, O, f0 k, iv⟩) (HM.out.below (((Below.refl _ _).drew).alloc (Nat.le_refl _) _)) ((own_below HX.out ((Below.refl _ _).drew)).alloc _) HGR.out hi0 (by show j ≤ 1048576; omega) (hlo.ztBelow (((Below.refl _ _).drew).alloc (Nat.le_refl _) _)) (HNO.out.ztBelow (((Below.refl _ _).drew).alloc (Nat.le_refl _) _))⟩, Lib.hid (below_grown (HWW.out.drew.alloc hWW _) ((own_below HX.out ((Below.refl _ _).drew)).alloc _) HGR.out (Nat.le_refl _) (by simp; omega))⟩)
    · have hkk : k = n0 := by omega
      subst hkk
      go_wp2_with fail
      go_ret
      obtain ⟨xs, ho, hx⟩ := HP.out
      obtain ⟨hc1, hc2⟩ : k ≤ c ∧ c ≤ maxLen := by
        rcases ho.2 with ⟨hv, _⟩ | ⟨g', cap, cur, hv, _, _, h1, h2, _⟩
        · cases hv
        · injection hv with _ _ hv
          omega
      exact ⟨g, c, M, rfl, hc1, hc2, hx.row ho, HB.out⟩
end Go.Proofs.Ytnccjpkeaapefaa
