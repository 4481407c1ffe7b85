/- convertMessagesToPublic. -/
import Derived.Test.YtnccjpkeaapefaaMk
import Derived.Deep.RegionHeld3
import Derived.Deep.RegionHeld3
import Derived.OwnWalk
namespace Go.Proofs.Ytnccjpkeaapefaa
open Go.RowKit
set_option linter.unusedVariables false
set_option linter.unusedSimpArgs false
theorem conv_len (want x : Int) (M : Nat → MsgR) : ∀ k, (conv want x M k).length ≤ k
  | 0 => Nat.le_refl _
  | k + 1 => by
    have := conv_len want x M k
    simp only [conv, List.length_append]
    split <;> simp <;> omega
theorem cell_alloc_old {w : World} {a : Addr} {v : Value} (o : Obj) (h : w.cell? a = some v) : (w.alloc o).cell? a = some v :=
  (World.cell?_of_block (Below.heap_alloc _ _ _ (block_lt_of_cell h))).trans h
theorem held_alloc {w : World} {a1 a2 a3 a4 a7 : Addr} {v1 v2 v3 v4 v7 : Value} (h : w.cell? a1 = some v1 ∧ w.cell? a2 = some v2 ∧ w.cell? a3 = some v3 ∧ w.cell? a4 = some v4 ∧ w.cell? a7 = some v7) (o : Obj) :
    (w.alloc o).cell? a1 = some v1 ∧ (w.alloc o).cell? a2 = some v2 ∧ (w.alloc o).cell? a3 = some v3 ∧ (w.alloc o).cell? a4 = some v4 ∧ (w.alloc o).cell? a7 = some v7 :=
  ⟨cell_alloc_old o h.1, cell_alloc_old o h.2.1, cell_alloc_old o h.2.2.1, cell_alloc_old o h.2.2.2.1, cell_alloc_old o h.2.2.2.2⟩
/-- A block of another element type is not the row's. -/
theorem row_other {w : World} {base t0 t size n b : Nat} {v : Value} {xs : List Value} {cur : Array Value} (ho : w.ownsRow base t0 size v n xs) (hb : w.heap[b]? = some (.cells cur t (0, 0))) (ht : t ≠ t0) : some b ≠ v.ownBlock := fun e => by
  rcases ho.2 with ⟨rfl, _⟩ | ⟨g', cap, cur', rfl, _, hgg, _⟩
  · simp [Value.ownBlock] at e
  · simp [Value.ownBlock] at e
    subst e
    rw [hgg] at hb
    injection hb with hb
    injection hb with _ hb
    exact ht hb.symm
/-- A new location lies outside the rows. -/
theorem IsLoc.zt {base t0 H : Nat} {w : World} {v : Value} {o : Option PubA} (h : IsLoc w (fun g => H ≤ g ∧ ∃ cur, w.heap[g]? = some (.cells cur 61 (0, 0))) v o) (hb : base ≤ H) (ht : 61 ≠ t0) : IsLoc w (Zt base t0 w) v o :=
  h.keep (fun g ⟨h1, cur, h2⟩ => ⟨Nat.le_trans hb h1, cur, _, h2, ht⟩) (fun _ _ _ => rfl) (Nat.le_refl _)
theorem IsLoc.zlAlloc {base H : Nat} {w : World} {o : Obj} {v : Value} {q : Option PubA} (h : IsLoc w (fun g => H ≤ g ∧ ∃ cur, w.heap[g]? = some (.cells cur 61 (0, 0))) v q) (hb : base ≤ H) : IsLoc (w.alloc o) (ZL base (w.alloc o)) v q :=
  (h.keep (Z' := ZL base w) (fun g ⟨h1, h2⟩ => ⟨Nat.le_trans hb h1, h2⟩) (fun _ _ _ => rfl) (Nat.le_refl _)).zlBelow ((Below.refl _ _).alloc (Nat.le_refl _) _)
set_option maxHeartbeats 4000000 in
theorem conv14 (want x : Int) (A : Option Addr) (n c : Nat) (M : Nat → MsgR) (Z : Nat → Prop) (w : World) (h : RawRow w Z A n M) (hn : n ≤ 4096) :
    Calls Try.prog 14 #[.int .u8 want, .slice A n c, .int .u8 x] w fun e w' => ∃ A' c', e = .returned (.slice A' (conv want x M n).length c') ∧ PubRow w' (fun g => w.heap.size ≤ g) A' (conv want x M n) ∧ Below w.heap.size w w' := by
  have H := Lib.hid h
  clear h
  obtain ⟨i0, hi, hz0, hz1, hz2⟩ := info_parts infoNote
  have HI := Lib.hid hi
  have HZ0 := Lib.hid hz0
  have HZ1 := Lib.hid hz1
  have HZ2 := Lib.hid hz2
  clear hi hz0 hz1 hz2
  obtain ⟨j0, hi, hz0, hz1, hz2⟩ := info_parts infoMsg
  have GI := Lib.hid hi
  have GZ0 := Lib.hid hz0
  have GZ1 := Lib.hid hz1
  have GZ2 := Lib.hid hz2
  clear hi hz0 hz1 hz2
  go_enter Try.func14, Try.ntmps14
  go_wp2_with fail
  go_loopg [7, 15] n (fun q s i wr => ∃ (k : Nat) (A' : Option Addr) (c' : Nat), k ≤ n ∧ q = n - k ∧ i = .int .i64 k ∧ s = .slice A' (conv want x M k).length c' ∧ Hid ((conv want x M k = [] → A' = none) ∧ ∃ xs, wr.ownsRow w.heap.size 35 6 (.slice A' (conv want x M k).length c') (conv want x M k).length xs ∧ MsgsAt wr (Zt w.heap.size 35 wr) xs (conv want x M k)) ∧ Below w.heap.size w wr)
  case atStart => exact ⟨0, none, 0, Nat.zero_le _, rfl, rfl, rfl, Lib.hid ⟨fun _ => rfl, [], World.ownsRow_nil _ _ _ _, MsgsAt.nil _ _⟩, Below.refl _ _⟩
  case round =>
    obtain ⟨k, A', c', hk, rfl, rfl, rfl, HP, hb⟩ := hrel
    by_cases hkn : k < n
    · obtain ⟨b, o, rfl, hz, hlt, hm⟩ := H.out (by omega)
      obtain ⟨h1, h2, h4, h5, h6, h7, hid, hN, vn, vl, h0, h3, hno, hl⟩ := hm k hkn
      have d0 := (hb.cell (p := ⟨b, o + k * 8, none⟩) hlt).trans h0
      have d1 := (hb.cell (p := ⟨b, o + k * 8 + 1, none⟩) hlt).trans h1
      have d2 := (hb.cell (p := ⟨b, o + k * 8 + 2, none⟩) hlt).trans h2
      have d3 := (hb.cell (p := ⟨b, o + k * 8 + 3, none⟩) hlt).trans h3
      have d4 := (hb.cell (p := ⟨b, o + k * 8 + 4, none⟩) hlt).trans h4
      have d5 := (hb.cell (p := ⟨b, o + k * 8 + 5, none⟩) hlt).trans h5
      have d6 := (hb.cell (p := ⟨b, o + k * 8 + 6, none⟩) hlt).trans h6
      have d7 := (hb.cell (p := ⟨b, o + k * 8 + 7, none⟩) hlt).trans h7
      have HB := Lib.hid hb
      have HNO := Lib.hid (hno.keep (w' := wr) (fun _ h => h) (fun g _ hg => hb.block g hg) hb.size)
      have HL := Lib.hid (hl.keep (w' := wr) (fun _ h => h) (fun g _ hg => hb.block g hg) hb.size)
      have s1 : ∀ (a : Addr) (md : Mode) (w : World), (store a vn md).run Try.prog w = stored Try.prog w a vn md := fun a md w => run_store Try.prog w a vn md hno.one
      have s2 : ∀ (a : Addr) (md : Mode) (w : World), (store a vl md).run Try.prog w = stored Try.prog w a vl md := fun a md w => run_store Try.prog w a vl md hl.one
      clear h0 h1 h2 h3 h4 h5 h6 h7 hno hl hm hb
      by_cases hw : (M k).kind = want
      · have hw' : ((M k).kind == want) = true := by simp [hw]
        obtain ⟨An, cn, rfl⟩ := HNO.out.form
        go_wp2_with fail
        generalize wr = wO at *
        go_loopg [10, 12, 26] (M k).n (fun q v u i wy => ∃ (j : Nat) (An' : Option Addr) (cn' : Nat), j ≤ (M k).n ∧ q = (M k).n - j ∧ i = .int .i64 j ∧ v = .slice An' j cn' ∧ Hid ((j = 0 → An' = none ∧ cn' = 0) ∧ ∃ ys, wy.ownsRow (wO.heap.size + 1) 57 2 (.slice An' j cn') j ys ∧ NotesAt wy (ZL (wO.heap.size + 1) wy) ys j (M k).T (fun j => ((M k).O j).map (pubOf x))) ∧
          Below (wO.heap.size + 1) (wO.alloc (Obj.cells #[Value.slice An (M k).n cn, Value.string (M k).plugin, Value.nilIface, vl, Value.string (M k).text, Value.bool false, Value.int IntKind.u8 want, Value.int IntKind.u8 (M k).id] 51)) wy)
        case atStart => exact ⟨0, none, 0, Nat.zero_le _, rfl, rfl, rfl, Lib.hid ⟨fun _ => ⟨rfl, rfl⟩, [], World.ownsRow_nil _ _ _ _, NotesAt.nil _ _ _ _⟩, Below.refl _ _⟩
        case round =>
          obtain ⟨j, An', cn', hj, rfl, rfl, rfl, HN2, hby⟩ := hrel
          by_cases hjn : j < (M k).n
          · rcases HNO.out with ⟨hz0, _⟩ | ⟨hpos, g, c2, e, hgz, hglt, hcells⟩
            · omega
            injection e with eA en ec
            subst eA ec
            obtain ⟨n0, n2, n3, vlj, n1, hlj⟩ := hcells j hjn
            have BY := ((Below.refl _ wO).alloc (Nat.le_refl _) _).trans (hby.mono (by omega))
            have e0 := (BY.cell (p := ⟨g, j * 4, none⟩) hglt).trans n0
            have e1 := (BY.cell (p := ⟨g, j * 4 + 1, none⟩) hglt).trans n1
            have e2 := (BY.cell (p := ⟨g, j * 4 + 2, none⟩) hglt).trans n2
            have e3 := (BY.cell (p := ⟨g, j * 4 + 3, none⟩) hglt).trans n3
            have s3 : ∀ (a : Addr) (md : Mode) (w : World), (store a vlj md).run Try.prog w = stored Try.prog w a vlj md := fun a md w => run_store Try.prog w a vlj md hlj.one
            have HLJ := Lib.hid (hlj.keep (w' := wr) (fun _ h => h) (fun q _ hq => BY.block q hq) BY.size)
            have HBY := Lib.hid hby
            have HGG : Hid (wO.heap.size + 1 ≤ wr.heap.size) := Lib.hid (by have := hby.size; simpa using this)
            clear n0 n1 n2 n3 hlj hcells BY hby
            obtain ⟨hnil, ys, hoy, hny⟩ := HN2.out
            have HO0 := Lib.hid hoy
            have HN0 := Lib.hid hny
            clear hoy hny hnil
            go_wp2_with fail
            go_region_law (first
              | (refine step_append_lies _ (by rfl) (.tmp 30) (.tmp 38) 33 (by rfl) (wO.heap.size + 1) 57 i0 _ 2 24 Try.underlying33 HI.out HZ0.out HZ1.out HZ2.out rfl (by decide) (.slice An' j cn') j ys (by rfl) (HO3.out.alloc _) ⟨w2.heap.size, 0, none⟩ 1 1 [.string ((M k).T j), .pointer p] (by rfl) (by rfl) (World.news_of_block (cs := #[.string ((M k).T j), .pointer p]) (heap_alloc_new w2 _)) (by simp [Value.oneCell']) (by omega) (by unfold maxLen; omega) (by omega) (by have := HGG.out; have := HB3.out.size; simp; omega) (w2.heap.size + 1) (by simp) ?_; intro g2 cap w3 hown hgr hat hlt3; have HOWN := Lib.hid hown; have HGR := Lib.hid hgr; clear hown hgr hat hlt3)
              | (go_simp; go_at_call 17; refine (toLoc vlj Z ((M k).O j) x _ ?hr).mono ?_; (case hr => exact HLJ.out.keep (fun _ h => h) (fun q _ hq => Below.heap_alloc _ _ _ hq) (by simp)); rintro e w2 ⟨v', rfl, hv', hb2⟩; obtain ⟨p, rfl⟩ := hv'.form; have q2 : w2.cell? ⟨wr.heap.size, 2, none⟩ = some (.string ((M k).T j)) := (hb2.cell (p := ⟨_, 2, none⟩) (by simp)).trans (by show (wr.alloc _).cell? _ = _; rw [Lib.cell_of_heap (heap_alloc_new wr _)]; rfl); have HV := Lib.hid hv'; have HB3 := Lib.hid (below_step hb2); have HO3 := Lib.hid (own_below HO0.out (below_step hb2)); have HN3 := Lib.hid (HN0.out.below (below_step hb2)); clear hv' hb2)
              | fail)
            all_goals go_wp2_with fail
            all_goals go_roundg ((M k).n - (j + 1))
            all_goals first
              | omega
              | (rw [show ((j : Int) + 1) = ((j + 1 : Nat) : Int) by omega]
                 refine ⟨j + 1, some ⟨g2, 0, none⟩, cap, by omega, rfl, rfl, rfl, Lib.hid ⟨fun h => absurd h (by omega), _, HOWN.out, NotesAt.step (HN3.out.below ((Below.refl _ _).alloc (Nat.le_refl _) _)) (HO3.out.alloc _) HGR.out (HV.out.zlAlloc (by have := HGG.out; simp; omega))⟩, ?_⟩
                 exact below_grown ((HBY.out.trans (HB3.out.mono HGG.out)).alloc (Nat.le_trans HGG.out HB3.out.size) _) (HO3.out.alloc _) HGR.out (Nat.le_refl _) (by have := HGG.out; have := HB3.out.size; simp; omega))
          · have hjj : j = (M k).n := by omega
            subst hjj
            obtain ⟨hnil, ys, hoy, hny⟩ := HN2.out
            have HNO2 : Hid (IsNotes wr (Zt w.heap.size 35 wr) (.slice An' (M k).n cn') (M k).n (M k).T (fun j => ((M k).O j).map (pubOf x))) := Lib.hid (hny.isZt hoy (by have := HB.out.size; omega) (fun h => by obtain ⟨rfl, rfl⟩ := hnil h; rw [h]))
            have BYO : Below wO.heap.size wO wr := ((Below.refl _ wO).alloc (Nat.le_refl _) _).trans (hby.mono (by omega))
            obtain ⟨hA', xs, hox, hmx⟩ := HP.out
            have HX := Lib.hid (own_below hox BYO)
            have HM := Lib.hid (hmx.below BYO)
            have HBW : Hid (Below w.heap.size w wr) := Lib.hid (HB.out.trans (BYO.mono HB.out.size))
            have HL2 := Lib.hid (HL.out.keep (w' := wr) (fun _ h => h) (fun g _ hg => BYO.block g hg) BYO.size)
            have hsz : wO.heap.size < wr.heap.size := by have := hby.size; simp at this; omega
            have hWs : w.heap.size ≤ wr.heap.size := HBW.out.size
            have hcl : (conv want x M k).length ≤ k := conv_len want x M k
            have e1 : wr.cell? ⟨wO.heap.size, 1, none⟩ = some (.string (M k).plugin) := (hby.cell (by simp)).trans (by rw [Lib.cell_of_heap (heap_alloc_new wO _)]; rfl)
            have e2 : wr.cell? ⟨wO.heap.size, 2, none⟩ = some .nilIface := (hby.cell (by simp)).trans (by rw [Lib.cell_of_heap (heap_alloc_new wO _)]; rfl)
            have e3 : wr.cell? ⟨wO.heap.size, 3, none⟩ = some vl := (hby.cell (by simp)).trans (by rw [Lib.cell_of_heap (heap_alloc_new wO _)]; rfl)
            have e4 : wr.cell? ⟨wO.heap.size, 4, none⟩ = some (.string (M k).text) := (hby.cell (by simp)).trans (by rw [Lib.cell_of_heap (heap_alloc_new wO _)]; rfl)
            have e7 : wr.cell? ⟨wO.heap.size, 7, none⟩ = some (.int .u8 (M k).id) := (hby.cell (by simp)).trans (by rw [Lib.cell_of_heap (heap_alloc_new wO _)]; rfl)
            have hgm : wr.heap[wO.heap.size]? = (wO.alloc (Obj.cells #[Value.slice An (M k).n cn, Value.string (M k).plugin, Value.nilIface, vl, Value.string (M k).text, Value.bool false, Value.int IntKind.u8 want, Value.int IntKind.u8 (M k).id] 51)).heap[wO.heap.size]? := hby.block _ (by omega)
            have hgm2 := hgm.trans (heap_alloc_new wO _)
            have HGM := Lib.hid hgm2
            clear hgm hgm2 d0 d1 d2 d3 d4 d5 d6 d7 hnil hoy hny hA' hox hmx BYO hby HN2 HP
            go_wp2_with fail
            go_region_held3 (fun w' => w'.cell? ⟨wO.heap.size, 1, none⟩ = some (.string (M k).plugin) ∧ w'.cell? ⟨wO.heap.size, 2, none⟩ = some .nilIface ∧ w'.cell? ⟨wO.heap.size, 3, none⟩ = some vl ∧ w'.cell? ⟨wO.heap.size, 4, none⟩ = some (.string (M k).text) ∧ w'.cell? ⟨wO.heap.size, 7, none⟩ = some (.int .u8 (M k).id))
              (first
                | assumption
                | exact ⟨by assumption, by assumption, by assumption, by assumption, by assumption⟩
                | (refine held_alloc ?_ _; assumption))
              (first
                | (go_at_call 18; refine (msgStr (M k).id hid _).mono ?_; rintro e w2 ⟨rfl, hb2⟩; have HB2 : Hid (Below wr.heap.size wr w2) := Lib.hid (below_of_drew hb2); have f1 := (HB2.out.cell (p := ⟨wO.heap.size, 1, none⟩) hsz).trans e1; have f2 := (HB2.out.cell (p := ⟨wO.heap.size, 2, none⟩) hsz).trans e2; have f3 := (HB2.out.cell (p := ⟨wO.heap.size, 3, none⟩) hsz).trans e3; have f4 := (HB2.out.cell (p := ⟨wO.heap.size, 4, none⟩) hsz).trans e4; have f7 := (HB2.out.cell (p := ⟨wO.heap.size, 7, none⟩) hsz).trans e7; clear hb2)
                | (go_at_call 17; refine (toLoc vl Z (M k).loc x _ (HL2.out.keep (fun _ h => h) (fun q _ hq => HB2.out.block q hq) HB2.out.size)).mono ?_; rintro e w3 ⟨v', rfl, hv', hb3⟩; obtain ⟨p, rfl⟩ := hv'.form; have HV := Lib.hid (hv'.zt (base := w.heap.size) (t0 := 35) (by have := HB2.out.size; omega) (by decide)); have HB3 := Lib.hid (HB2.out.trans (hb3.mono HB2.out.size)); have f1 := (HB3.out.cell (p := ⟨wO.heap.size, 1, none⟩) hsz).trans e1; have f2 := (HB3.out.cell (p := ⟨wO.heap.size, 2, none⟩) hsz).trans e2; have f3 := (HB3.out.cell (p := ⟨wO.heap.size, 3, none⟩) hsz).trans e3; have f4 := (HB3.out.cell (p := ⟨wO.heap.size, 4, none⟩) hsz).trans e4; have f7 := (HB3.out.cell (p := ⟨wO.heap.size, 7, none⟩) hsz).trans e7; clear hb3 hv')
                | (refine step_append_lies _ (by rfl) (.tmp 41) (.tmp 60) 30 (by rfl) w.heap.size 35 j0 _ 6 96 Try.underlying30 GI.out GZ0.out GZ1.out GZ2.out rfl (by decide) (.slice A' (conv want x M k).length c') (conv want x M k).length xs (by rfl) ((own_below HX.out HB3.out).alloc _) ⟨w3.heap.size, 0, none⟩ 1 1 [.string (idText (M k).id), .string (M k).plugin, .string (M k).text, .pointer p, .slice An' (M k).n cn', .nilIface] (by rfl) (by rfl) (World.news_of_block (cs := #[.string (idText (M k).id), .string (M k).plugin, .string (M k).text, .pointer p, .slice An' (M k).n cn', .nilIface]) (heap_alloc_new w3 _)) (by simp [Value.oneCell']) (by omega) (by unfold maxLen; omega) (by omega) (by have := HB3.out.size; simp; omega) (w3.heap.size + 1) (by simp) ?_; intro g2 cap w4 hown hgr hat hlt4; have hgb := hgr.block wO.heap.size (by have := HB3.out.size; simp; omega) (row_other HX.out HGM.out (by decide)); have hcc : ∀ i, w4.cell? ⟨wO.heap.size, i, none⟩ = wr.cell? ⟨wO.heap.size, i, none⟩ := (fun i => (World.cell?_of_block (a := ⟨wO.heap.size, i, none⟩) hgb).trans ((World.cell?_of_block (a := ⟨wO.heap.size, i, none⟩) (Below.heap_alloc _ _ _ (by have := HB3.out.size; show wO.heap.size < _; omega))).trans (HB3.out.cell (p := ⟨wO.heap.size, i, none⟩) hsz))); have f1 := (hcc _).trans e1; have f2 := (hcc _).trans e2; have f3 := (hcc _).trans e3; have f4 := (hcc _).trans e4; have f7 := (hcc _).trans e7; have HOWN := Lib.hid hown; have HGR := Lib.hid hgr; clear hown hgr hat hlt4 hcc hgb))
            all_goals go_wp2_with fail
            all_goals go_roundg (n - (k + 1))
            all_goals first
              | omega
              | (rw [show ((k : Int) + 1) = ((k + 1 : Nat) : Int) by omega]
                 have hcv : conv want x M (k + 1) = conv want x M k ++ [toP x (M k)] := by simp [conv, hw]
                 refine ⟨k + 1, some ⟨g2, 0, none⟩, cap, by omega, rfl, rfl, by rw [hcv]; simp, ?_, ?_⟩
                 · rw [hcv]
                   refine Lib.hid ⟨fun h => by simp at h, xs ++ [.string (idText (M k).id), .string (M k).plugin, .string (M k).text, .pointer p, .slice An' (M k).n cn', .nilIface], ?_, ?_⟩
                   · simpa using HOWN.out
                   · exact MsgsAt.step (m := toP x (M k)) ((HM.out.below HB3.out).below ((Below.refl _ _).alloc (Nat.le_refl _) _)) ((own_below HX.out HB3.out).alloc _) HGR.out hN (HV.out.ztBelow ((Below.refl _ _).alloc (Nat.le_refl _) _)) ((HNO2.out.ztBelow HB3.out).ztBelow ((Below.refl _ _).alloc (Nat.le_refl _) _))
                 · exact below_grown ((HBW.out.trans (HB3.out.mono hWs)).alloc (Nat.le_trans hWs HB3.out.size) _) ((own_below HX.out HB3.out).alloc _) HGR.out (Nat.le_refl _) (by have := HB3.out.size; simp; omega))
      · have hw' : ((M k).kind == want) = false := by simp [hw]
        go_wp2_with fail
        go_roundg (n - (k + 1))
        case rel =>
          have hcv : conv want x M (k + 1) = conv want x M k := by simp [conv, hw]
          rw [show ((k : Int) + 1) = ((k + 1 : Nat) : Int) by omega]
          refine ⟨k + 1, A', c', by omega, by omega, rfl, by rw [hcv], ?_, HB.out.alloc HB.out.size _⟩
          rw [hcv]
          obtain ⟨e, xs, ho, hx⟩ := HP.out
          exact Lib.hid ⟨e, xs, ho.alloc _, hx.below ((Below.refl _ _).alloc (Nat.le_refl _) _)⟩
        case measure => omega
    · have hkk : k = n := by omega
      subst hkk
      have HB := Lib.hid hb
      clear hb
      go_wp2_with fail
      go_ret
      obtain ⟨e, xs, ho, hx⟩ := HP.out
      exact ⟨_, _, rfl, (hx.keep (Z' := fun g => w.heap.size ≤ g) (fun g hg => hg.1) (fun _ _ _ => rfl) (Nat.le_refl _)).row ho (fun g hg => hg) e, HB.out⟩
end Go.Proofs.Ytnccjpkeaapefaa
