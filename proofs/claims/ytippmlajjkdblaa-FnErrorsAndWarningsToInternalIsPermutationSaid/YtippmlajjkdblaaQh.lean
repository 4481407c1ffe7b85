/- buildMsgs' walk (printed by genQh.py). -/
import Derived.Test.YtippmlajjkdblaaQg
import Derived.Deep.RegionHeld3
import Derived.Laws.Cover3
namespace Go.Proofs.Ytippmlajjkdblaa
open Go.RowKit
set_option linter.unusedVariables false
set_option linter.unusedSimpArgs false
theorem pcl0 {m : ZM} {p : Option Addr} (h : m.n = 0) : pcl m p none 0 = [.string m.I, .string m.G, .string m.X, .pointer p, .slice none 0 0, .nilIface] := by simp only [pcl, h]
set_option maxRecDepth 100000 in
set_option maxHeartbeats 16000000 in
theorem buildMsgs (B : Nat) (A : Option Addr) (n c : Nat) (M : Nat → ZM) (w : World) (h : InMsgs w B A n M) (hB : B ≤ w.heap.size) (hS : ∀ i, i < n → (M i).n ≤ 1048576) (hn : n ≤ 4096) :
    Calls Try.prog 8 #[.slice A n c] w fun e w' => (∃ g, e = .returned (.slice (some ⟨g, 0, none⟩) n n) ∧ PubRow w' (some ⟨g, 0, none⟩) n (fun i => toP (M i))) ∧ Below w.heap.size w w' := by
  have H := Lib.hid h
  have HS := Lib.hid hS
  clear h hS
  obtain ⟨row, hrow, hmk⟩ := mk_full (t := 28) Try.underlying28 infoPM n (by omega) (by omega)
  have hwf := fresh_row w row 53
  rw [hrow] at hwf
  have HC0 : Hid (Bld (w.alloc (.cells row 53)) w.heap.size n 0 M) := Lib.hid (by
    obtain ⟨f, hf⟩ := hwf
    exact ⟨f, fun _ => none, fun _ => none, fun _ => 0, hf, Reads.zero _ _ _, fun i hi => absurd hi (by omega)⟩)
  have HB0 : Hid (Below w.heap.size w (w.alloc (.cells row 53))) := Lib.hid ((Below.refl _ _).alloc (Nat.le_refl _) _)
  have HZ0 : Hid (w.heap.size < (w.alloc (.cells row 53)).heap.size) := Lib.hid (by simp)
  clear hwf
  go_enter Try.func8, Try.ntmps8
  go_wp2_with fail
  clear hmk
  go_loopg [4] n (fun q i wr => ∃ k : Nat, k ≤ n ∧ q = n - k ∧ i = .int .i64 k ∧ Hid (Bld wr w.heap.size n k M) ∧ Hid (Below w.heap.size w wr) ∧ w.heap.size < wr.heap.size)
  case atStart => exact ⟨0, Nat.zero_le _, rfl, rfl, HC0, HB0, HZ0.out⟩
  case round =>
    obtain ⟨k, hk, rfl, rfl, HC, HB, hlt⟩ := hrel
    by_cases hkn : k < n
    · obtain ⟨b, o, hA, hb, hc⟩ := (H.out.below (HB.out.mono hB)) (by omega)
      subst hA
      have hk0i : (0 : Int) ≤ (k : Int) := by omega
      have hkni : (k : Int) < (n : Int) := by omega
      have hmc := hc k hkn
      have hmn := HS.out k hkn
      obtain ⟨m, hm⟩ : ∃ m, m = M k := ⟨_, rfl⟩
      rw [← hm] at hmc hmn
      have HM := Lib.hid hm
      clear hm hc
      have hmc' := hmc
      obtain ⟨_, _, _, _, _, _, _, An, cn, c3, hno, hnil, _, _⟩ := hmc'
      have HMC := Lib.hid hmc
      have HN := Lib.hid hno
      clear hmc hno
      obtain ⟨rown, hrown, hmk⟩ := mk_full (t := 47) Try.underlying47 infoPN m.n (by omega) (by omega)
      have hnilq := fun w A n c => run_neq_slice_nil (P := Try.prog) w 41 45 A n c Try.underlying41
      have hbne : ¬ b = w.heap.size := by omega
      have hbne' : ¬ w.heap.size = b := by omega
      have hbwr : b < wr.heap.size := Nat.lt_of_lt_of_le hb (Nat.le_trans hB HB.out.size)
      cases An with
      | none =>
        have hm0 : m.n = 0 := by
          by_cases h : 0 < m.n
          · obtain ⟨b, o, e, _⟩ := HN.out h
            cases e
          · omega
        go_wp2_with fail
        clear hmk hnilq
        obtain ⟨wx, hwx⟩ : ∃ wx, wx = wr := ⟨_, rfl⟩
        rw [← hwx]
        have HBd : Hid (Bld wx w.heap.size n k M) := Lib.hid (by rw [hwx]; exact HC.out)
        have HBx : Hid (Below w.heap.size w wx) := Lib.hid (by rw [hwx]; exact HB.out)
        have HBxr : Hid (Below wr.heap.size wr wx) := Lib.hid (by rw [hwx]; exact Below.refl _ _)
        have hbw : b < wx.heap.size := by rw [hwx]; exact hbwr
        have hmc : MCells wx B b (o + k * 12) m := by rw [hwx]; exact HMC.out
        clear c3 hwx
        have hmsg := hmc
        obtain ⟨e0, e1, e2, _, _, _, ⟨e3, l1, l2, l3, l4, l5, l6, l7, _⟩, _⟩ := hmsg
        have e4 : wx.cell? ⟨b, o + k * 12 + 4, none⟩ = _ := l1
        have e5 : wx.cell? ⟨b, o + k * 12 + 5, none⟩ = _ := l2
        have e6 : wx.cell? ⟨b, o + k * 12 + 6, none⟩ = _ := l3
        have e7 : wx.cell? ⟨b, o + k * 12 + 7, none⟩ = _ := l4
        have e8 : wx.cell? ⟨b, o + k * 12 + 8, none⟩ = _ := l5
        have e9 : wx.cell? ⟨b, o + k * 12 + 9, none⟩ = _ := l6
        have e10 : wx.cell? ⟨b, o + k * 12 + 10, none⟩ = _ := l7
        clear l1 l2 l3 l4 l5 l6 l7
        clear hmc
        go_region_held3 (fun w' => w'.cell? ⟨b, o + k * 12, none⟩ = some (.string m.I) ∧ w'.cell? ⟨b, o + k * 12 + 1, none⟩ = some (.string m.G) ∧ w'.cell? ⟨b, o + k * 12 + 2, none⟩ = some (.string m.X) ∧ w'.cell? ⟨b, o + k * 12 + 3, none⟩ = some (.bool m.L.P) ∧ w'.cell? ⟨b, o + k * 12 + 4, none⟩ = some (.string m.L.F) ∧ w'.cell? ⟨b, o + k * 12 + 5, none⟩ = some (.string m.L.N) ∧ w'.cell? ⟨b, o + k * 12 + 6, none⟩ = some (.int .i64 m.L.i) ∧ w'.cell? ⟨b, o + k * 12 + 7, none⟩ = some (.int .i64 m.L.j) ∧ w'.cell? ⟨b, o + k * 12 + 8, none⟩ = some (.int .i64 m.L.k) ∧ w'.cell? ⟨b, o + k * 12 + 9, none⟩ = some (.string m.L.T) ∧ w'.cell? ⟨b, o + k * 12 + 10, none⟩ = some (.string m.L.S))
          (first | with_reducible assumption | exact ⟨by with_reducible assumption, by with_reducible assumption, by with_reducible assumption, by with_reducible assumption, by with_reducible assumption, by with_reducible assumption, by with_reducible assumption, by with_reducible assumption, by with_reducible assumption, by with_reducible assumption, by with_reducible assumption⟩ | (go_simp; done))
          (first
            | (go_at_call 13; refine (buildLoc m.L _).mono ?_; rintro e w3 ⟨p, rfl, hnl, hb3⟩; have HNL := Lib.hid hnl; have HB3 : Hid (Below wx.heap.size wx w3) := Lib.hid (below_of_drew hb3); have f0 := (HB3.out.cell (p := ⟨b, o + k * 12, none⟩) hbw).trans e0; have f1 := (HB3.out.cell (p := ⟨b, o + k * 12 + 1, none⟩) hbw).trans e1; have f2 := (HB3.out.cell (p := ⟨b, o + k * 12 + 2, none⟩) hbw).trans e2; have f3 := (HB3.out.cell (p := ⟨b, o + k * 12 + 3, none⟩) hbw).trans e3; have f4 := (HB3.out.cell (p := ⟨b, o + k * 12 + 4, none⟩) hbw).trans e4; have f5 := (HB3.out.cell (p := ⟨b, o + k * 12 + 5, none⟩) hbw).trans e5; have f6 := (HB3.out.cell (p := ⟨b, o + k * 12 + 6, none⟩) hbw).trans e6; have f7 := (HB3.out.cell (p := ⟨b, o + k * 12 + 7, none⟩) hbw).trans e7; have f8 := (HB3.out.cell (p := ⟨b, o + k * 12 + 8, none⟩) hbw).trans e8; have f9 := (HB3.out.cell (p := ⟨b, o + k * 12 + 9, none⟩) hbw).trans e9; have f10 := (HB3.out.cell (p := ⟨b, o + k * 12 + 10, none⟩) hbw).trans e10; have HB4 := Lib.hid (HBd.out.keep HB3.out); obtain ⟨f3, P3, A3, c3', hr3, _, _⟩ := HB4.out; have t0 : w3.cell? ⟨w.heap.size, k * 6, none⟩ = _ := hr3.cell (i := k * 6) (by omega); generalize f3 (k * 6) = z0 at t0; have t1 : w3.cell? ⟨w.heap.size, k * 6 + 1, none⟩ = _ := hr3.cell (i := k * 6 + 1) (by omega); generalize f3 (k * 6 + 1) = z1 at t1; have t2 : w3.cell? ⟨w.heap.size, k * 6 + 2, none⟩ = _ := hr3.cell (i := k * 6 + 2) (by omega); generalize f3 (k * 6 + 2) = z2 at t2; have t3 : w3.cell? ⟨w.heap.size, k * 6 + 3, none⟩ = _ := hr3.cell (i := k * 6 + 3) (by omega); generalize f3 (k * 6 + 3) = z3 at t3; have t4 : w3.cell? ⟨w.heap.size, k * 6 + 4, none⟩ = _ := hr3.cell (i := k * 6 + 4) (by omega); generalize f3 (k * 6 + 4) = z4 at t4; have t5 : w3.cell? ⟨w.heap.size, k * 6 + 5, none⟩ = _ := hr3.cell (i := k * 6 + 5) (by omega); generalize f3 (k * 6 + 5) = z5 at t5; have hfz : ∀ i, w3.frozen? ⟨w.heap.size, i, none⟩ = false := hr3.frozen; clear hb3 hnl hr3))
        all_goals go_wp2_with fail
        all_goals go_roundg (n - (k + 1))
        case rel =>
          have HST := Bld.step (w' := w3.setCells w.heap.size (k * 6) [.string m.I, .string m.G, .string m.X, .pointer p, .slice none 0 0, .nilIface]) HB4.out HM.out hkn (p := p) (A1 := none) (c1 := 0) (by rw [pcl0 hm0]) HNL.out (bn0 _ _ hm0)
          have HBz := HBx.out.trans (HB3.out.mono HBx.out.size)
          exact ⟨k + 1, by omega, rfl, by go_num, Lib.hid HST.1, Lib.hid (Below.grown HBz HST.2 HBz.size (fun g hg => by injection hg with hg; omega)), Nat.lt_of_lt_of_le hlt (Nat.le_trans (Nat.le_trans HBxr.out.size HB3.out.size) HST.2.size)⟩
        case measure => omega
      | some an =>
        go_wp2_with fail
        obtain ⟨w2, hw2⟩ : ∃ w2, w2 = wr.alloc (Obj.cells rown 51) := ⟨_, rfl⟩
        rw [← hw2]
        have hz2 : w2.heap.size = wr.heap.size + 1 := by rw [hw2]; simp
        have HBW2 : Hid (Below wr.heap.size wr w2) := Lib.hid (by rw [hw2]; exact (Below.refl _ _).alloc (Nat.le_refl _) _)
        have HCP : Hid (BdN w2 wr.heap.size m 0) := Lib.hid (by
          obtain ⟨f, hf⟩ := fresh_row wr rown 51
          rw [hrown, ← hw2] at hf
          exact ⟨f, fun _ => none, hf, Reads.zero _ _ _, fun i hi => absurd hi (by omega)⟩)
        clear hw2 hmk c3 hnilq
        generalize wr = wO at *
        go_loopg [6] m.n (fun q i wy => ∃ j : Nat, j ≤ m.n ∧ q = m.n - j ∧ i = .int .i64 j ∧ Hid (BdN wy wO.heap.size m j) ∧ Hid (Below wO.heap.size w2 wy))
        case atStart => exact ⟨0, Nat.zero_le _, rfl, rfl, HCP, Lib.hid (Below.refl _ _)⟩
        case round =>
          obtain ⟨j, hj, rfl, rfl, HCJ, HY⟩ := hrel
          have hzr : wO.heap.size + 1 ≤ wr.heap.size := by have := HY.out.size; omega
          have HBxr : Hid (Below wO.heap.size wO wr) := Lib.hid (HBW2.out.trans HY.out)
          have hmc := HMC.out.below hb (HBxr.out.mono (Nat.le_trans hB HB.out.size))
          have hmc' := hmc
          obtain ⟨_, _, _, _, _, _, _, An, cn, c3, hno, _, _, _⟩ := hmc'
          have hbw : b < wr.heap.size := by omega
          have hbnO : ¬ b = wO.heap.size := by omega
          have hbnO' : ¬ wO.heap.size = b := by omega
          by_cases hjn : j < m.n
          · obtain ⟨b2, o2, hA2, hb2, hc2⟩ := hno (by omega)
            subst hA2
            have hb2O : ¬ b2 = wO.heap.size := by omega
            have hb2O' : ¬ wO.heap.size = b2 := by omega
            have hbw2 : b2 < wr.heap.size := by omega
            have hj0i : (0 : Int) ≤ (j : Int) := by omega
            have hjni : (j : Int) < (m.n : Int) := by omega
            have e0 := c3
            obtain ⟨e1, k0, ⟨e2, l1, l2, l3, l4, l5, l6, l7, ok⟩⟩ := hc2 j hjn
            have e3 : wr.cell? ⟨b2, o2 + j * 9 + 2, none⟩ = _ := l1
            have e4 : wr.cell? ⟨b2, o2 + j * 9 + 3, none⟩ = _ := l2
            have e5 : wr.cell? ⟨b2, o2 + j * 9 + 4, none⟩ = _ := l3
            have e6 : wr.cell? ⟨b2, o2 + j * 9 + 5, none⟩ = _ := l4
            have e7 : wr.cell? ⟨b2, o2 + j * 9 + 6, none⟩ = _ := l5
            have e8 : wr.cell? ⟨b2, o2 + j * 9 + 7, none⟩ = _ := l6
            have e9 : wr.cell? ⟨b2, o2 + j * 9 + 8, none⟩ = _ := l7
            clear hc2 l1 l2 l3 l4 l5 l6 l7 ok k0 hno hmc c3
            go_wp2_with fail
            go_region_held3 (fun w' => w'.cell? ⟨b, o + k * 12 + 11, none⟩ = some (.slice (some ⟨b2, o2, none⟩) m.n cn) ∧ w'.cell? ⟨b2, o2 + j * 9, none⟩ = some (.string (m.T j)) ∧ w'.cell? ⟨b2, o2 + j * 9 + 1, none⟩ = some (.bool (m.O j).P) ∧ w'.cell? ⟨b2, o2 + j * 9 + 2, none⟩ = some (.string (m.O j).F) ∧ w'.cell? ⟨b2, o2 + j * 9 + 3, none⟩ = some (.string (m.O j).N) ∧ w'.cell? ⟨b2, o2 + j * 9 + 4, none⟩ = some (.int .i64 (m.O j).i) ∧ w'.cell? ⟨b2, o2 + j * 9 + 5, none⟩ = some (.int .i64 (m.O j).j) ∧ w'.cell? ⟨b2, o2 + j * 9 + 6, none⟩ = some (.int .i64 (m.O j).k) ∧ w'.cell? ⟨b2, o2 + j * 9 + 7, none⟩ = some (.string (m.O j).T) ∧ w'.cell? ⟨b2, o2 + j * 9 + 8, none⟩ = some (.string (m.O j).S))
              (first | with_reducible assumption | exact ⟨by with_reducible assumption, by with_reducible assumption, by with_reducible assumption, by with_reducible assumption, by with_reducible assumption, by with_reducible assumption, by with_reducible assumption, by with_reducible assumption, by with_reducible assumption, by with_reducible assumption⟩ | (go_simp; done))
              (first
                | (go_at_call 13; refine (buildLoc (m.O j) _).mono ?_; rintro e w3 ⟨p, rfl, hnl, hb3⟩; have HNL := Lib.hid hnl; have HB3 : Hid (Below wr.heap.size wr w3) := Lib.hid (below_of_drew hb3); have f0 := (HB3.out.cell (p := ⟨b, o + k * 12 + 11, none⟩) hbw).trans e0; have f1 := (HB3.out.cell (p := ⟨b2, o2 + j * 9, none⟩) hbw2).trans e1; have f2 := (HB3.out.cell (p := ⟨b2, o2 + j * 9 + 1, none⟩) hbw2).trans e2; have f3 := (HB3.out.cell (p := ⟨b2, o2 + j * 9 + 2, none⟩) hbw2).trans e3; have f4 := (HB3.out.cell (p := ⟨b2, o2 + j * 9 + 3, none⟩) hbw2).trans e4; have f5 := (HB3.out.cell (p := ⟨b2, o2 + j * 9 + 4, none⟩) hbw2).trans e5; have f6 := (HB3.out.cell (p := ⟨b2, o2 + j * 9 + 5, none⟩) hbw2).trans e6; have f7 := (HB3.out.cell (p := ⟨b2, o2 + j * 9 + 6, none⟩) hbw2).trans e7; have f8 := (HB3.out.cell (p := ⟨b2, o2 + j * 9 + 7, none⟩) hbw2).trans e8; have f9 := (HB3.out.cell (p := ⟨b2, o2 + j * 9 + 8, none⟩) hbw2).trans e9; have HB4 := Lib.hid (HCJ.out.keep HB3.out); obtain ⟨f3, P3, hr3, _, _⟩ := HB4.out; have t0 : w3.cell? ⟨wO.heap.size, j * 2, none⟩ = _ := hr3.cell (i := j * 2) (by omega); generalize f3 (j * 2) = z0 at t0; have t1 : w3.cell? ⟨wO.heap.size, j * 2 + 1, none⟩ = _ := hr3.cell (i := j * 2 + 1) (by omega); generalize f3 (j * 2 + 1) = z1 at t1; have hfz : ∀ i, w3.frozen? ⟨wO.heap.size, i, none⟩ = false := hr3.frozen; clear hb3 hnl hr3))
            all_goals go_wp2_with fail
            all_goals go_roundg (m.n - (j + 1))
            case rel =>
              have HST := BdN.step (w' := w3.setCells wO.heap.size (j * 2) [.string (m.T j), .pointer p]) HB4.out rfl HNL.out
              exact ⟨j + 1, by omega, rfl, by go_num, Lib.hid HST.1, Lib.hid (Below.grown (HY.out.trans (HB3.out.mono (by omega))) HST.2 (by have := HB3.out.size; omega) (fun g hg => by injection hg with hg; omega))⟩
            case measure => omega
          · have hjj : j = m.n := by omega
            clear hjn hno
            subst hjj
            obtain ⟨wx, hwx⟩ : ∃ wx, wx = wr := ⟨_, rfl⟩
            have HBd : Hid (Bld wx w.heap.size n k M) := Lib.hid (by rw [hwx]; exact HC.out.keep HBxr.out)
            have HBx : Hid (Below w.heap.size w wx) := Lib.hid (by rw [hwx]; exact HB.out.trans (HBxr.out.mono HB.out.size))
            have HBN : Hid (BN wx (some ⟨wO.heap.size, 0, none⟩) m) := Lib.hid (by rw [hwx]; exact HCJ.out.bn)
            have HBY : Hid (Below wO.heap.size wO wx) := Lib.hid (by rw [hwx]; exact HBxr.out)
            go_wp2_with fail
            rw [← hwx] at hmc hbw ⊢
            clear hwx c3
            have hmsg := hmc
            obtain ⟨e0, e1, e2, _, _, _, ⟨e3, l1, l2, l3, l4, l5, l6, l7, _⟩, _⟩ := hmsg
            have e4 : wx.cell? ⟨b, o + k * 12 + 4, none⟩ = _ := l1
            have e5 : wx.cell? ⟨b, o + k * 12 + 5, none⟩ = _ := l2
            have e6 : wx.cell? ⟨b, o + k * 12 + 6, none⟩ = _ := l3
            have e7 : wx.cell? ⟨b, o + k * 12 + 7, none⟩ = _ := l4
            have e8 : wx.cell? ⟨b, o + k * 12 + 8, none⟩ = _ := l5
            have e9 : wx.cell? ⟨b, o + k * 12 + 9, none⟩ = _ := l6
            have e10 : wx.cell? ⟨b, o + k * 12 + 10, none⟩ = _ := l7
            clear l1 l2 l3 l4 l5 l6 l7
            clear hmc
            go_region_held3 (fun w' => w'.cell? ⟨b, o + k * 12, none⟩ = some (.string m.I) ∧ w'.cell? ⟨b, o + k * 12 + 1, none⟩ = some (.string m.G) ∧ w'.cell? ⟨b, o + k * 12 + 2, none⟩ = some (.string m.X) ∧ w'.cell? ⟨b, o + k * 12 + 3, none⟩ = some (.bool m.L.P) ∧ w'.cell? ⟨b, o + k * 12 + 4, none⟩ = some (.string m.L.F) ∧ w'.cell? ⟨b, o + k * 12 + 5, none⟩ = some (.string m.L.N) ∧ w'.cell? ⟨b, o + k * 12 + 6, none⟩ = some (.int .i64 m.L.i) ∧ w'.cell? ⟨b, o + k * 12 + 7, none⟩ = some (.int .i64 m.L.j) ∧ w'.cell? ⟨b, o + k * 12 + 8, none⟩ = some (.int .i64 m.L.k) ∧ w'.cell? ⟨b, o + k * 12 + 9, none⟩ = some (.string m.L.T) ∧ w'.cell? ⟨b, o + k * 12 + 10, none⟩ = some (.string m.L.S))
              (first | with_reducible assumption | exact ⟨by with_reducible assumption, by with_reducible assumption, by with_reducible assumption, by with_reducible assumption, by with_reducible assumption, by with_reducible assumption, by with_reducible assumption, by with_reducible assumption, by with_reducible assumption, by with_reducible assumption, by with_reducible assumption⟩ | (go_simp; done))
              (first
                | (go_at_call 13; refine (buildLoc m.L _).mono ?_; rintro e w3 ⟨p, rfl, hnl, hb3⟩; have HNL := Lib.hid hnl; have HB3 : Hid (Below wx.heap.size wx w3) := Lib.hid (below_of_drew hb3); have f0 := (HB3.out.cell (p := ⟨b, o + k * 12, none⟩) hbw).trans e0; have f1 := (HB3.out.cell (p := ⟨b, o + k * 12 + 1, none⟩) hbw).trans e1; have f2 := (HB3.out.cell (p := ⟨b, o + k * 12 + 2, none⟩) hbw).trans e2; have f3 := (HB3.out.cell (p := ⟨b, o + k * 12 + 3, none⟩) hbw).trans e3; have f4 := (HB3.out.cell (p := ⟨b, o + k * 12 + 4, none⟩) hbw).trans e4; have f5 := (HB3.out.cell (p := ⟨b, o + k * 12 + 5, none⟩) hbw).trans e5; have f6 := (HB3.out.cell (p := ⟨b, o + k * 12 + 6, none⟩) hbw).trans e6; have f7 := (HB3.out.cell (p := ⟨b, o + k * 12 + 7, none⟩) hbw).trans e7; have f8 := (HB3.out.cell (p := ⟨b, o + k * 12 + 8, none⟩) hbw).trans e8; have f9 := (HB3.out.cell (p := ⟨b, o + k * 12 + 9, none⟩) hbw).trans e9; have f10 := (HB3.out.cell (p := ⟨b, o + k * 12 + 10, none⟩) hbw).trans e10; have HB4 := Lib.hid (HBd.out.keep HB3.out); obtain ⟨f3, P3, A3, c3', hr3, _, _⟩ := HB4.out; have t0 : w3.cell? ⟨w.heap.size, k * 6, none⟩ = _ := hr3.cell (i := k * 6) (by omega); generalize f3 (k * 6) = z0 at t0; have t1 : w3.cell? ⟨w.heap.size, k * 6 + 1, none⟩ = _ := hr3.cell (i := k * 6 + 1) (by omega); generalize f3 (k * 6 + 1) = z1 at t1; have t2 : w3.cell? ⟨w.heap.size, k * 6 + 2, none⟩ = _ := hr3.cell (i := k * 6 + 2) (by omega); generalize f3 (k * 6 + 2) = z2 at t2; have t3 : w3.cell? ⟨w.heap.size, k * 6 + 3, none⟩ = _ := hr3.cell (i := k * 6 + 3) (by omega); generalize f3 (k * 6 + 3) = z3 at t3; have t4 : w3.cell? ⟨w.heap.size, k * 6 + 4, none⟩ = _ := hr3.cell (i := k * 6 + 4) (by omega); generalize f3 (k * 6 + 4) = z4 at t4; have t5 : w3.cell? ⟨w.heap.size, k * 6 + 5, none⟩ = _ := hr3.cell (i := k * 6 + 5) (by omega); generalize f3 (k * 6 + 5) = z5 at t5; have hfz : ∀ i, w3.frozen? ⟨w.heap.size, i, none⟩ = false := hr3.frozen; clear hb3 hnl hr3))
            all_goals go_wp2_with fail
            all_goals go_roundg (n - (k + 1))
            case rel =>
              have HST := Bld.step (w' := w3.setCells w.heap.size (k * 6) [.string m.I, .string m.G, .string m.X, .pointer p, .slice (some ⟨wO.heap.size, 0, none⟩) m.n m.n, .nilIface]) HB4.out HM.out hkn (p := p) (A1 := some ⟨wO.heap.size, 0, none⟩) (c1 := m.n) rfl HNL.out (HBN.out.keep (fun b cur t h _ => HB3.out.block b (heap_lt h)) HB3.out.size)
              have HBz := HBx.out.trans (HB3.out.mono HBx.out.size)
              exact ⟨k + 1, by omega, rfl, by go_num, Lib.hid HST.1, Lib.hid (Below.grown HBz HST.2 HBz.size (fun g hg => by injection hg with hg; omega)), Nat.lt_of_lt_of_le hlt (Nat.le_trans (Nat.le_trans HBY.out.size HB3.out.size) HST.2.size)⟩
            case measure => omega
    · have hkk : k = n := by omega
      subst hkk
      go_wp2_with fail
      go_ret
      exact ⟨⟨_, rfl, HC.out.done HS.out⟩, HB.out⟩
end Go.Proofs.Ytippmlajjkdblaa
