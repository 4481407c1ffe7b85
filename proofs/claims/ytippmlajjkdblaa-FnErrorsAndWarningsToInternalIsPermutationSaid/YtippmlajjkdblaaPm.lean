/- convertMessagesToInternal. -/
import Derived.Test.YtippmlajjkdblaaPl
import Derived.Deep.RegionHeld3
namespace Go.Proofs.Ytippmlajjkdblaa
open Go.RowKit
set_option linter.unusedVariables false
set_option linter.unusedSimpArgs false
theorem cell_alloc_old {w : World} {a : Addr} {v : Value} (o : Obj) (h : w.cell? a = some v) : (w.alloc o).cell? a = some v :=
  (World.cell?_of_block (Below.heap_alloc _ _ _ (block_lt_of_cell h))).trans h
theorem held_alloc {w : World} {a1 a2 a3 a4 a7 : Addr} {v1 v2 v3 v4 v7 : Value} (h : w.cell? a1 = some v1 ∧ w.cell? a2 = some v2 ∧ w.cell? a3 = some v3 ∧ w.cell? a4 = some v4 ∧ w.cell? a7 = some v7) (o : Obj) :
    (w.alloc o).cell? a1 = some v1 ∧ (w.alloc o).cell? a2 = some v2 ∧ (w.alloc o).cell? a3 = some v3 ∧ (w.alloc o).cell? a4 = some v4 ∧ (w.alloc o).cell? a7 = some v7 :=
  ⟨cell_alloc_old o h.1, cell_alloc_old o h.2.1, cell_alloc_old o h.2.2.1, cell_alloc_old o h.2.2.2.1, cell_alloc_old o h.2.2.2.2⟩
theorem below_step {w w' : World} {o : Obj} (h : Below (w.alloc o).drew.heap.size (w.alloc o).drew w') : Below w.heap.size w w' :=
  (((Below.refl _ w).alloc (Nat.le_refl _) o).drew).trans (h.mono (by simp))
theorem below_grown {B base t0 size n : Nat} {a w w' : World} {v : Value} {xs : List Value} (hb : Below B a w) (ho : w.ownsRow base t0 size v n xs) (hg : w.grownBy w' v.ownBlock) (hB : B ≤ base) (hs : B ≤ w.heap.size) : Below B a w' :=
  hb.grown hg hs fun k hk => Nat.le_trans hB (ho.lt k hk).1
/-- What has been made of messages so far. -/
def Made (L : Nat) (w : World) (A : Option Addr) (c k0 k : Nat) (P : PQ) (R : Nat → MsgR) : Prop :=
  ∃ xs P', w.ownsRow L 38 8 (.slice A (k0 + k) c) (k0 + k) xs ∧ GrpAt w xs (k0 + k) P' ∧ (∀ i, i < k0 → P' i = P i) ∧ ∀ i, i < k → (P' (k0 + i)).2 = R i
set_option maxRecDepth 100000 in
set_option maxHeartbeats 8000000 in
theorem conv (L : Nat) (kind : Int) (A0 : Option Addr) (k0 c0 : Nat) (xs0 : List Value) (P : PQ) (A : Option Addr) (n c : Nat) (M : Nat → MsgP) (w : World) (ho : w.ownsRow L 38 8 (.slice A0 k0 c0) k0 xs0) (hx : GrpAt w xs0 k0 P) (h : PubRow w A n M) (hn : n ≤ 4096) (hk0 : k0 ≤ 4096) (hL : L ≤ w.heap.size) :
    Calls Try.prog 14 #[.slice A0 k0 c0, .int .u8 kind, .slice A n c] w fun e w' => ∃ A' c', e = .returned (.slice A' (k0 + n) c') ∧ Made L w' A' c' k0 n P (fun i => toR kind (M i)) ∧ Kt L w w' := by
  have H := Lib.hid h
  have HM0 : Hid (Made L w A0 c0 k0 0 P (fun i => toR kind (M i))) := Lib.hid ⟨xs0, P, ho, hx, fun _ _ => rfl, fun i hi => absurd hi (by omega)⟩
  clear h ho hx
  obtain ⟨i0, hi, hz0, hz1, hz2⟩ := info_parts infoData
  have HI := Lib.hid hi
  have HZ0 := Lib.hid hz0
  have HZ1 := Lib.hid hz1
  have HZ2 := Lib.hid hz2
  clear hi hz0 hz1 hz2
  obtain ⟨j0, hi, hz0, hz1, hz2⟩ := info_parts infoMsg
  have GI := Lib.hid hi
  have GZ0 := Lib.hid hz0
  have GZ1 := Lib.hid hz1
  have GZ2 := Lib.hid hz2
  clear hi hz0 hz1 hz2
  go_enter Try.func14, Try.ntmps14
  go_wp2_with fail
  go_loopg [0, 14] n (fun q s i wr => ∃ (k : Nat) (A' : Option Addr) (c' : Nat), k ≤ n ∧ q = n - k ∧ i = .int .i64 k ∧ s = .slice A' (k0 + k) c' ∧ Hid (Made L wr A' c' k0 k P (fun i => toR kind (M i))) ∧ Hid (Kt L w wr))
  case atStart => exact ⟨0, A0, c0, Nat.zero_le _, rfl, rfl, rfl, HM0, Lib.hid (Kt.refl _ _)⟩
  case round =>
    obtain ⟨k, A', c', hk, rfl, rfl, rfl, HP, HK⟩ := hrel
    by_cases hkn : k < n
    · obtain ⟨b, rfl, hz, hm⟩ := (H.out.keep HK.out) (by omega)
      have HMS := Lib.hid (hm k hkn)
      clear hm
      obtain ⟨d0, d1, d2, d5, hN, ⟨p3, d3, hl⟩, An, cn, d4, hno⟩ := HMS.out
      have HL := Lib.hid hl
      have HNO := Lib.hid hno
      have hLr : L ≤ wr.heap.size := Nat.le_trans hL HK.out.size
      clear hl hno hz
      go_wp2_with fail
      generalize wr = wO at *
      go_loopg [9, 11, 21] (M k).n (fun q v u i wy => ∃ (j : Nat) (An' : Option Addr) (cn' : Nat), j ≤ (M k).n ∧ q = (M k).n - j ∧ i = .int .i64 j ∧ v = .slice An' j cn' ∧ Hid ((j = 0 → An' = none ∧ cn' = 0) ∧ ∃ ys, wy.ownsRow (wO.heap.size + 1) 36 4 (.slice An' j cn') j ys ∧ NotesAt wy ys j (M k).T (fun j => ((M k).O j).map intOf)) ∧
        Below (wO.heap.size + 1) (wO.alloc (Obj.cells #[Value.string (M k).id, Value.string (M k).plugin, Value.string (M k).text, Value.pointer p3, Value.slice An (M k).n cn, Value.nilIface] 53)) wy)
      case atStart => exact ⟨0, none, 0, Nat.zero_le _, rfl, rfl, rfl, Lib.hid ⟨fun _ => ⟨rfl, rfl⟩, [], World.ownsRow_nil _ _ _ _, NotesAt.nil _ _ _⟩, Below.refl _ _⟩
      case round =>
        obtain ⟨j, An', cn', hj, rfl, rfl, rfl, HN2, hby⟩ := hrel
        by_cases hjn : j < (M k).n
        · have BY := ((Below.refl _ wO).alloc (Nat.le_refl _) _).trans (hby.mono (by omega))
          obtain ⟨g, rfl, hgz, hcells⟩ := (HNO.out.keep (Kt.of_below (L := 0) BY (Nat.zero_le _))) (by omega)
          obtain ⟨e0, pj, e1, hlj⟩ := hcells j hjn
          have hglt := hgz.lt
          have HLJ := Lib.hid hlj
          have HBY := Lib.hid hby
          have HGG : Hid (wO.heap.size + 1 ≤ wr.heap.size) := Lib.hid (by have := hby.size; simpa using this)
          clear hlj hcells BY hby hgz d0 d1 d2 d3 d4 d5
          obtain ⟨hnil, ys, hoy, hny⟩ := HN2.out
          have HO0 := Lib.hid hoy
          have HN0 := Lib.hid hny
          clear hoy hny hnil
          go_wp2_with fail
          go_region_law (first
            | (refine step_append_lies _ (by rfl) (.tmp 25) (.tmp 32) 33 (by rfl) (wO.heap.size + 1) 36 i0 _ 4 48 Try.underlying33 HI.out HZ0.out HZ1.out HZ2.out rfl (by decide) (.slice An' j cn') j ys (by rfl) (HO3.out.alloc _) ⟨w2.heap.size, 0, none⟩ 1 1 [.nilIface, .pointer p, .string ((M k).T j), .bool false] (by rfl) (by rfl) (World.news_of_block (cs := #[.nilIface, .pointer p, .string ((M k).T j), .bool false]) (heap_alloc_new w2 _)) (by simp [Value.oneCell']) (by omega) (by unfold maxLen; omega) (by omega) (by have := HGG.out; have := HB3.out.size; simp; omega) (w2.heap.size + 1) (by simp) ?_; intro g2 cap w3 hown hgr hat hlt3; have HOWN := Lib.hid hown; have HGR := Lib.hid hgr; clear hown hgr hat hlt3)
            | (go_simp; go_at_call 17; refine (toInt pj ((M k).O j) _ ?hr).mono ?_; (case hr => exact HLJ.out.keep (Kt.of_below (L := 0) ((Below.refl _ _).alloc (Nat.le_refl _) _) (Nat.zero_le _) |>.trans ⟨rfl, rfl, rfl, Nat.le_refl _, fun _ _ => rfl, fun _ _ => rfl⟩)); rintro e w2 ⟨l, p, rfl, hlp, hv', hb2⟩; have q0 : w2.cell? ⟨wr.heap.size, 0, none⟩ = some (.string ((M k).T j)) := (hb2.cell (p := ⟨_, 0, none⟩) (by simp)).trans (by show (wr.alloc _).cell? _ = _; rw [Lib.cell_of_heap (heap_alloc_new wr _)]; rfl); have HV := Lib.hid hv'; have HLP := Lib.hid hlp; have HB3 := Lib.hid (below_step hb2); have HO3 := Lib.hid (own_below HO0.out (below_step hb2)); have HN3 := Lib.hid (HN0.out.below (below_step hb2)); clear hv' hb2 hlp)
            | fail)
          all_goals go_wp2_with fail
          all_goals go_roundg ((M k).n - (j + 1))
          all_goals first
            | omega
            | (rw [show ((j : Int) + 1) = ((j + 1 : Nat) : Int) by omega]
               refine ⟨j + 1, some ⟨g2, 0, none⟩, cap, by omega, rfl, rfl, rfl, Lib.hid ⟨fun h => absurd h (by omega), _, HOWN.out, by rw [HLP.out]; exact NotesAt.step (HN3.out.below ((Below.refl _ _).alloc (Nat.le_refl _) _)) (HO3.out.alloc _) HGR.out (HV.out.zlBelow ((Below.refl _ _).alloc (Nat.le_refl _) _))⟩, ?_⟩
               exact below_grown ((HBY.out.trans (HB3.out.mono HGG.out)).alloc (Nat.le_trans HGG.out HB3.out.size) _) (HO3.out.alloc _) HGR.out (Nat.le_refl _) (by have := HGG.out; have := HB3.out.size; simp; omega))
        · have hjj : j = (M k).n := by omega
          subst hjj
          obtain ⟨hnil, ys, hoy, hny⟩ := HN2.out
          have HNO2 : Hid (IsRawNotes wr (Zo wr) An' (M k).n cn' (M k).n (M k).T (fun j => ((M k).O j).map intOf)) := Lib.hid (hny.is hoy hnil)
          have BYO : Below wO.heap.size wO wr := ((Below.refl _ wO).alloc (Nat.le_refl _) _).trans (hby.mono (by omega))
          have KYO := Kt.of_below BYO hLr
          obtain ⟨xs, P', hox, hmx, hPa, hPb⟩ := HP.out
          have HX := Lib.hid (own_below hox BYO)
          have HM := Lib.hid (hmx.keep KYO)
          have HPa := Lib.hid hPa
          have HPb := Lib.hid hPb
          have HKW := Lib.hid (HK.out.trans KYO)
          have HL2 := Lib.hid (HL.out.keep KYO)
          have hsz : wO.heap.size < wr.heap.size := by have := hby.size; simp at this; omega
          have hWs : L ≤ wr.heap.size := Nat.le_trans hLr BYO.size
          have e0 : wr.cell? ⟨wO.heap.size, 0, none⟩ = some (.string (M k).id) := (hby.cell (by simp)).trans (by rw [Lib.cell_of_heap (heap_alloc_new wO _)]; rfl)
          have e1 : wr.cell? ⟨wO.heap.size, 1, none⟩ = some (.string (M k).plugin) := (hby.cell (by simp)).trans (by rw [Lib.cell_of_heap (heap_alloc_new wO _)]; rfl)
          have e2 : wr.cell? ⟨wO.heap.size, 2, none⟩ = some (.string (M k).text) := (hby.cell (by simp)).trans (by rw [Lib.cell_of_heap (heap_alloc_new wO _)]; rfl)
          have e3 : wr.cell? ⟨wO.heap.size, 3, none⟩ = some (.pointer p3) := (hby.cell (by simp)).trans (by rw [Lib.cell_of_heap (heap_alloc_new wO _)]; rfl)
          have e5 : wr.cell? ⟨wO.heap.size, 5, none⟩ = some .nilIface := (hby.cell (by simp)).trans (by rw [Lib.cell_of_heap (heap_alloc_new wO _)]; rfl)
          have hgm : wr.heap[wO.heap.size]? = (wO.alloc (Obj.cells #[Value.string (M k).id, Value.string (M k).plugin, Value.string (M k).text, Value.pointer p3, Value.slice An (M k).n cn, Value.nilIface] 53)).heap[wO.heap.size]? := hby.block _ (by omega)
          have hgm2 := hgm.trans (heap_alloc_new wO _)
          have HGM := Lib.hid hgm2
          clear hgm hgm2 d0 d1 d2 d3 d4 d5 hnil hoy hny hox hmx BYO KYO hby HN2 HP hPa hPb
          go_wp2_with fail
          go_region_held3 (fun w' => w'.cell? ⟨wO.heap.size, 0, none⟩ = some (.string (M k).id) ∧ w'.cell? ⟨wO.heap.size, 1, none⟩ = some (.string (M k).plugin) ∧ w'.cell? ⟨wO.heap.size, 2, none⟩ = some (.string (M k).text) ∧ w'.cell? ⟨wO.heap.size, 3, none⟩ = some (.pointer p3) ∧ w'.cell? ⟨wO.heap.size, 5, none⟩ = some .nilIface)
            (first
              | assumption
              | exact ⟨by assumption, by assumption, by assumption, by assumption, by assumption⟩
              | (refine held_alloc ?_ _; assumption))
            (first
              | (go_at_call 18; refine (maxId (M k).id _).mono ?_; rintro e w2 ⟨rfl, hb2⟩; have HB2 : Hid (Below wr.heap.size wr w2) := Lib.hid (below_of_drew hb2); have f0 := (HB2.out.cell (p := ⟨wO.heap.size, 0, none⟩) hsz).trans e0; have f1 := (HB2.out.cell (p := ⟨wO.heap.size, 1, none⟩) hsz).trans e1; have f2 := (HB2.out.cell (p := ⟨wO.heap.size, 2, none⟩) hsz).trans e2; have f3 := (HB2.out.cell (p := ⟨wO.heap.size, 3, none⟩) hsz).trans e3; have f5 := (HB2.out.cell (p := ⟨wO.heap.size, 5, none⟩) hsz).trans e5; clear hb2)
              | (go_at_call 17; refine (toInt p3 (M k).loc _ (HL2.out.keep (Kt.of_below (L := 0) HB2.out (Nat.zero_le _)))).mono ?_; rintro e w3 ⟨l, p, rfl, hlp, hv', hb3⟩; have HLP := Lib.hid hlp; have HV := Lib.hid hv'.zo; have HB3 := Lib.hid (HB2.out.trans (hb3.mono HB2.out.size)); have f0 := (HB3.out.cell (p := ⟨wO.heap.size, 0, none⟩) hsz).trans e0; have f1 := (HB3.out.cell (p := ⟨wO.heap.size, 1, none⟩) hsz).trans e1; have f2 := (HB3.out.cell (p := ⟨wO.heap.size, 2, none⟩) hsz).trans e2; have f3 := (HB3.out.cell (p := ⟨wO.heap.size, 3, none⟩) hsz).trans e3; have f5 := (HB3.out.cell (p := ⟨wO.heap.size, 5, none⟩) hsz).trans e5; clear hb3 hv' hlp)
              | (refine step_append_lies _ (by rfl) (.tmp 35) (.tmp 52) 26 (by rfl) L 38 j0 _ 8 96 Try.underlying26 GI.out GZ0.out GZ1.out GZ2.out rfl (by decide) (.slice A' (k0 + k) c') (k0 + k) xs (by rfl) ((own_below HX.out HB3.out).alloc _) ⟨w3.heap.size, 0, none⟩ 1 1 [.slice An' (M k).n cn', .string (M k).plugin, .nilIface, .pointer p, .string (M k).text, .bool false, .int .u8 kind, .int .u8 (mid (M k).id)] (by rfl) (by rfl) (World.news_of_block (cs := #[.slice An' (M k).n cn', .string (M k).plugin, .nilIface, .pointer p, .string (M k).text, .bool false, .int .u8 kind, .int .u8 (mid (M k).id)]) (heap_alloc_new w3 _)) (by simp [Value.oneCell']) (by omega) (by unfold maxLen; omega) (by omega) (by have := HB3.out.size; simp; omega) (w3.heap.size + 1) (by simp) ?_; intro g2 cap w4 hown hgr hat hlt4; have hgb := hgr.block wO.heap.size (by have := HB3.out.size; simp; omega) (row_other HX.out HGM.out (by decide)); have hcc : ∀ i, w4.cell? ⟨wO.heap.size, i, none⟩ = wr.cell? ⟨wO.heap.size, i, none⟩ := (fun i => (World.cell?_of_block (a := ⟨wO.heap.size, i, none⟩) hgb).trans ((World.cell?_of_block (a := ⟨wO.heap.size, i, none⟩) (Below.heap_alloc _ _ _ (by have := HB3.out.size; show wO.heap.size < _; omega))).trans (HB3.out.cell (p := ⟨wO.heap.size, i, none⟩) hsz))); have f0 := (hcc _).trans e0; have f1 := (hcc _).trans e1; have f2 := (hcc _).trans e2; have f3 := (hcc _).trans e3; have f5 := (hcc _).trans e5; have HOWN := Lib.hid hown; have HGR := Lib.hid hgr; clear hown hgr hat hlt4 hcc hgb))
          all_goals go_wp2_with fail
          all_goals go_roundg (n - (k + 1))
          all_goals first
            | omega
            | (rw [show ((k : Int) + 1) = ((k + 1 : Nat) : Int) by omega]
               have K3 : Kt L wr (w3.alloc (Obj.cells #[.slice An' (M k).n cn', .string (M k).plugin, .nilIface, .pointer p, .string (M k).text, .bool false, .int .u8 kind, .int .u8 (mid (M k).id)] 38)) := Kt.of_below (HB3.out.alloc HB3.out.size _) hWs
               have K4 := Kt.of_grown ((own_below HX.out HB3.out).alloc _) HGR.out (Nat.le_trans hWs K3.size)
               have hG : IsG w3 (Zo w3) ⟨An', (M k).n, cn', (M k).plugin, l, (M k).text, kind, mid (M k).id⟩ (toR kind (M k)) := ⟨rfl, rfl, rfl, rfl, hN, HNO2.out.keep (fun g hg _ => hg.of (HB3.out.block g hg.lt)) (fun g hg _ => HB3.out.block g hg.lt) HB3.out.size, HV.out⟩
               have hG4 := (hG.kt (Kt.of_below (L := 0) ((Below.refl _ _).alloc (Nat.le_refl _) _) (Nat.zero_le _))).kt K4
               refine ⟨k + 1, some ⟨g2, 0, none⟩, cap, by omega, rfl, rfl, rfl, Lib.hid ⟨_, upd P' (k0 + k) ((⟨An', (M k).n, cn', (M k).plugin, l, (M k).text, kind, mid (M k).id⟩ : Grp), toR kind (M k)), by have := HOWN.out; exact this, ?_, fun i hi => ?_, fun i hi => ?_⟩, Lib.hid (HKW.out.trans (K3.trans K4))⟩
               · rw [HLP.out]
                 exact GrpAt.snoc ((HM.out.keep K3).keep K4) hG4
               · rw [show upd P' (k0 + k) ((⟨An', (M k).n, cn', (M k).plugin, l, (M k).text, kind, mid (M k).id⟩ : Grp), toR kind (M k)) i = P' i by simp [upd, show i ≠ k0 + k by omega]]
                 exact HPa.out i hi
               · by_cases hik : i < k
                 · rw [show upd P' (k0 + k) ((⟨An', (M k).n, cn', (M k).plugin, l, (M k).text, kind, mid (M k).id⟩ : Grp), toR kind (M k)) (k0 + i) = P' (k0 + i) by simp [upd, show i ≠ k by omega]]
                   exact HPb.out i hik
                 · obtain rfl : i = k := by omega
                   simp [upd])
    · have hkk : k = n := by omega
      subst hkk
      go_wp2_with fail
      go_ret
      exact ⟨_, _, rfl, HP.out, HK.out⟩
end Go.Proofs.Ytippmlajjkdblaa
