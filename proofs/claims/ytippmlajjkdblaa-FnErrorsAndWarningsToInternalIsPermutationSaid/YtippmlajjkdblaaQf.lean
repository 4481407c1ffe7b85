/- cloneMsgs' walk (printed by genQf.py). -/
import Derived.Test.YtippmlajjkdblaaQe
import Derived.Laws.Cover3
namespace Go.Proofs.Ytippmlajjkdblaa
open Go.RowKit
set_option linter.unusedVariables false
set_option linter.unusedSimpArgs false
theorem infoZM : (Try.prog.info? 43).map (fun i => (i.zero, i.size, i.bytes)) = some (some (.agg #[.string ⟨#[]⟩, .string ⟨#[]⟩, .string ⟨#[]⟩, .bool false, .string ⟨#[]⟩, .string ⟨#[]⟩, .int .i64 0, .int .i64 0, .int .i64 0, .string ⟨#[]⟩, .string ⟨#[]⟩, .slice none 0 0]), 12, 168) := by kernel_rfl
theorem infoZN : (Try.prog.info? 45).map (fun i => (i.zero, i.size, i.bytes)) = some (some (.agg #[.string ⟨#[]⟩, .bool false, .string ⟨#[]⟩, .string ⟨#[]⟩, .int .i64 0, .int .i64 0, .int .i64 0, .string ⟨#[]⟩, .string ⟨#[]⟩]), 9, 112) := by kernel_rfl
theorem mcl0 {m : ZM} (h : m.n = 0) : mcl m none 0 = [.string m.I, .string m.G, .string m.X, .bool m.L.P, .string m.L.F, .string m.L.N, .int .i64 m.L.i, .int .i64 m.L.j, .int .i64 m.L.k, .string m.L.T, .string m.L.S, .slice none 0 0] := by simp only [mcl, h]
theorem Cln.cn0 (w : World) (g0 : Nat) (m : ZM) (h : m.n = 0) : CN w g0 none m := fun hn => by omega
set_option maxRecDepth 100000 in
set_option maxHeartbeats 16000000 in
theorem cloneMsgs (B : Nat) (A : Option Addr) (n c : Nat) (M : Nat → ZM) (w : World) (h : InMsgs w B A n M) (hB : B ≤ w.heap.size) (hS : ∀ i, i < n → (M i).n ≤ 1048576) (hn : n ≤ 4096) :
    Calls Try.prog 6 #[.slice A n c] w fun e w' => (∃ A' c', e = .returned (.slice A' n c') ∧ InMsgs w' w'.heap.size A' n M) ∧ Below w.heap.size w w' := by
  have H := Lib.hid h
  have HS := Lib.hid hS
  clear h hS
  have hnl := fun w A n c => Lib.run_eql_slice_nil (P := Try.prog) w 22 43 A n c 0 0 Try.underlying22
  cases A with
  | none =>
    have h0 : n = 0 := by
      by_cases h : 0 < n
      · obtain ⟨b, o, e, _⟩ := H.out h
        cases e
      · omega
    subst h0
    go_enter Try.func6, Try.ntmps6
    go_wp2_with fail
    go_ret
    exact ⟨⟨none, 0, rfl, fun h => absurd h (by omega)⟩, Below.refl _ _⟩
  | some ad =>
    obtain ⟨row, hrow, hmk⟩ := mk_full (t := 22) Try.underlying22 infoZM n (by omega) (by omega)
    have hwf := fresh_row w row 43
    rw [hrow] at hwf
    have HC0 : Hid (Cln (w.alloc (.cells row 43)) w.heap.size n 0 M) := Lib.hid (by
      obtain ⟨f, hf⟩ := hwf
      exact ⟨f, fun _ => none, fun _ => 0, hf, Reads.zero _ _ _, fun i hi => absurd hi (by omega)⟩)
    have HB0 : Hid (Below w.heap.size w (w.alloc (.cells row 43))) := Lib.hid ((Below.refl _ _).alloc (Nat.le_refl _) _)
    have HZ0 : Hid (w.heap.size < (w.alloc (.cells row 43)).heap.size) := Lib.hid (by simp)
    clear hwf
    go_enter Try.func6, Try.ntmps6
    go_wp2_with fail
    clear hmk hnl
    go_loopg [4] n (fun q i wr => ∃ k : Nat, k ≤ n ∧ q = n - k ∧ i = .int .i64 k ∧ Hid (Cln wr w.heap.size n k M) ∧ Hid (Below w.heap.size w wr) ∧ w.heap.size < wr.heap.size)
    case atStart => exact ⟨0, Nat.zero_le _, rfl, rfl, HC0, HB0, HZ0.out⟩
    case round =>
      obtain ⟨k, hk, rfl, rfl, HC, HB, hlt⟩ := hrel
      by_cases hkn : k < n
      · obtain ⟨b, o, hA, hb, hc⟩ := (H.out.below (HB.out.mono hB)) (by omega)
        obtain ⟨c0, c1, c2, k0, k1, k2, ⟨l0, l1, l2, l3, l4, l5, l6, l7, ok⟩, An, cn, c3, hno, hnil, hle, hmx⟩ := hc k hkn
        have hmn := HS.out k hkn
        injection hA with hA
        subst hA
        have r0 : wr.cell? ⟨b, o + k * 12 + 3, none⟩ = _ := l0
        have r1 : wr.cell? ⟨b, o + k * 12 + 4, none⟩ = _ := l1
        have r2 : wr.cell? ⟨b, o + k * 12 + 5, none⟩ = _ := l2
        have r3 : wr.cell? ⟨b, o + k * 12 + 6, none⟩ = _ := l3
        have r4 : wr.cell? ⟨b, o + k * 12 + 7, none⟩ = _ := l4
        have r5 : wr.cell? ⟨b, o + k * 12 + 8, none⟩ = _ := l5
        have r6 : wr.cell? ⟨b, o + k * 12 + 9, none⟩ = _ := l6
        have r7 : wr.cell? ⟨b, o + k * 12 + 10, none⟩ = _ := l7
        have HN := Lib.hid hno
        clear hc hno l0 l1 l2 l3 l4 l5 l6 l7 ok k0 k1 k2
        obtain ⟨m, hm⟩ : ∃ m, m = M k := ⟨_, rfl⟩
        rw [← hm] at c0 c1 c2 c3 r0 r1 r2 r3 r4 r5 r6 r7 hmn HN hle
        have HM := Lib.hid hm
        clear hm
        obtain ⟨rown, hrown, hmk⟩ := mk_full (t := 41) Try.underlying41 infoZN m.n (by omega) (by omega)
        have HBX0 : Hid (Blk (wr.alloc (.cells (mcs m An cn) 43)) wr.heap.size m An cn) := Lib.hid (heap_alloc_new wr _)
        have HSZ : Hid ((wr.alloc (.cells (mcs m An cn) 43)).heap.size = wr.heap.size + 1) := Lib.hid (by simp)
        have HBW : Hid (Below wr.heap.size wr (wr.alloc (.cells (mcs m An cn) 43))) := Lib.hid ((Below.refl _ _).alloc (Nat.le_refl _) _)
        have hnilq := fun w A n c => run_neq_slice_nil (P := Try.prog) w 41 45 A n c Try.underlying41
        cases An with
        | none =>
          have hm0 : m.n = 0 := by
            by_cases h : 0 < m.n
            · obtain ⟨b, o, e, _⟩ := HN.out h
              cases e
            · omega
          have hcn0 : cn = 0 := hnil rfl
          have hle0 : m.n ≤ 0 := by omega
          go_wp2_with (refine wpList_store_mid rfl 43 (.tmp 50) (.tmp 49) rfl w.heap.size (k * 12) #[.string m.I, .string m.G, .string m.X, .bool m.L.P, .string m.L.F, .string m.L.N, .int .i64 m.L.i, .int .i64 m.L.j, .int .i64 m.L.k, .string m.L.T, .string m.L.S, .slice none 0 0] ?_ ?_ ?_ ?_ ?_ ?_; (focus rfl); (focus rfl); (focus exact ((HC.out.keep ((Below.refl _ _).alloc (Nat.le_refl _) _)).there hkn)); (focus kernel_rfl); (focus kernel_rfl))
          go_roundg (n - (k + 1))
          case rel =>
            have HBX : Below wr.heap.size wr (wr.alloc (.cells #[.string m.I, .string m.G, .string m.X, .bool m.L.P, .string m.L.F, .string m.L.N, .int .i64 m.L.i, .int .i64 m.L.j, .int .i64 m.L.k, .string m.L.T, .string m.L.S, .slice none 0 0] 43)) := (Below.refl _ _).alloc (Nat.le_refl _) _
            have HST := Cln.step (HC.out.keep HBX) HM.out (w' := (wr.alloc (.cells #[.string m.I, .string m.G, .string m.X, .bool m.L.P, .string m.L.F, .string m.L.N, .int .i64 m.L.i, .int .i64 m.L.j, .int .i64 m.L.k, .string m.L.T, .string m.L.S, .slice none 0 0] 43)).setCells w.heap.size (k * 12) [.string m.I, .string m.G, .string m.X, .bool m.L.P, .string m.L.F, .string m.L.N, .int .i64 m.L.i, .int .i64 m.L.j, .int .i64 m.L.k, .string m.L.T, .string m.L.S, .slice none 0 0]) hkn (by rw [mcl0 hm0]) (A1 := none) (c1 := 0) (Cln.cn0 _ _ _ hm0) (by intro; rfl) (hle0) (by omega)
            exact ⟨k + 1, by omega, rfl, by go_num, Lib.hid HST.1, Lib.hid (Below.grown (HB.out.trans (HBX.mono HB.out.size)) HST.2 (Nat.le_trans HB.out.size HBX.size) (fun g hg => by injection hg with hg; omega)), Nat.lt_of_lt_of_le hlt (Nat.le_trans HBX.size HST.2.size)⟩
          case measure => omega
        | some an =>
          go_wp2_with fail
          obtain ⟨w1, hw1⟩ : ∃ w1, w1 = wr.alloc (Obj.cells (mcs m (some an) cn) 43) := ⟨_, rfl⟩
          rw [← hw1]
          have hz1 : w1.heap.size = wr.heap.size + 1 := by rw [hw1]; simp
          have hbx1 : Blk w1 wr.heap.size m (some an) cn := by rw [hw1]; exact heap_alloc_new wr _
          have hbw1 : Below wr.heap.size wr w1 := by rw [hw1]; exact (Below.refl _ _).alloc (Nat.le_refl _) _
          clear hw1 hmk c0 c1 c2 c3 r0 r1 r2 r3 r4 r5 r6 r7 HBX0 HSZ HBW
          obtain ⟨w2, hw2⟩ : ∃ w2, w2 = w1.alloc (Obj.cells rown 45) := ⟨_, rfl⟩
          rw [← hw2]
          have hz2 : w2.heap.size = wr.heap.size + 2 := by rw [hw2]; simp; omega
          have HBX2 : Hid (Blk w2 wr.heap.size m (some an) cn) := Lib.hid (hbx1.keep (B := w1.heap.size) (by rw [hw2]; exact (Below.refl _ _).alloc (Nat.le_refl _) _) (by omega))
          have HBW2 : Hid (Below wr.heap.size wr w2) := Lib.hid (hbw1.trans (by rw [hw2]; exact (Below.refl _ _).alloc (by omega) _))
          have HCP : Hid (CpN w2 (wr.heap.size + 1) m 0) := Lib.hid (by
            obtain ⟨f, hf⟩ := fresh_row w1 rown 45
            rw [hrown, ← hw2, hz1] at hf
            exact ⟨f, hf, Reads.zero _ _ _⟩)
          clear hw2 hbx1 hbw1 hz1
          generalize wr = wO at *
          go_loopg [7] m.n (fun q i wy => ∃ j : Nat, j ≤ m.n ∧ q = m.n - j ∧ i = .int .i64 j ∧ Hid (CpN wy (wO.heap.size + 1) m j) ∧ Hid (Below (wO.heap.size + 1) w2 wy))
          case atStart => exact ⟨0, Nat.zero_le _, rfl, rfl, HCP, Lib.hid (Below.refl _ _)⟩
          case round =>
            obtain ⟨j, hj, rfl, rfl, HCJ, HY⟩ := hrel
            have hzr : wO.heap.size + 2 ≤ wr.heap.size := by have := HY.out.size; omega
            have HBXr : Hid (Blk wr wO.heap.size m (some an) cn) := Lib.hid (HBX2.out.keep HY.out (by omega))
            have HBWr : Hid (Below wO.heap.size wO wr) := Lib.hid (HBW2.out.trans (HY.out.mono (by omega)))
            by_cases hjn : j < m.n
            · obtain ⟨b2, o2, hA2, hb2, hc2⟩ := (HN.out.below (HBWr.out.mono (Nat.le_trans hB HB.out.size))) (by omega)
              injection hA2 with hA2
              subst hA2
              have e11 : wr.cell? ⟨wO.heap.size, 11, none⟩ = some (.slice (some ⟨b2, o2, none⟩) m.n cn) := HBXr.out.cell 11
              obtain ⟨s0, k0, ⟨l0, l1, l2, l3, l4, l5, l6, l7, ok⟩⟩ := hc2 j hjn
              have s1 : wr.cell? ⟨b2, o2 + j * 9 + 1, none⟩ = _ := l0
              have s2 : wr.cell? ⟨b2, o2 + j * 9 + 2, none⟩ = _ := l1
              have s3 : wr.cell? ⟨b2, o2 + j * 9 + 3, none⟩ = _ := l2
              have s4 : wr.cell? ⟨b2, o2 + j * 9 + 4, none⟩ = _ := l3
              have s5 : wr.cell? ⟨b2, o2 + j * 9 + 5, none⟩ = _ := l4
              have s6 : wr.cell? ⟨b2, o2 + j * 9 + 6, none⟩ = _ := l5
              have s7 : wr.cell? ⟨b2, o2 + j * 9 + 7, none⟩ = _ := l6
              have s8 : wr.cell? ⟨b2, o2 + j * 9 + 8, none⟩ = _ := l7
              clear hc2 l0 l1 l2 l3 l4 l5 l6 l7 ok k0
              go_wp2_with (refine wpList_store_mid rfl 45 (.tmp 44) (.tmp 43) rfl (wO.heap.size + 1) (j * 9) #[.string (m.T j), .bool (m.O j).P, .string (m.O j).F, .string (m.O j).N, .int .i64 (m.O j).i, .int .i64 (m.O j).j, .int .i64 (m.O j).k, .string (m.O j).T, .string (m.O j).S] ?_ ?_ ?_ ?_ ?_ ?_; (focus rfl); (focus rfl); (focus exact (HCJ.out.there hjn)); (focus kernel_rfl); (focus kernel_rfl))
              go_roundg (m.n - (j + 1))
              case rel =>
                have HST := CpN.step HCJ.out rfl
                exact ⟨j + 1, by omega, rfl, by go_num, Lib.hid HST.1, Lib.hid (Below.grown HY.out HST.2 (by omega) (fun g hg => by injection hg with hg; omega))⟩
              case measure => omega
            · have hjj : j = m.n := by omega
              clear hjn
              subst hjj
              have HCr : Hid (Cln wr w.heap.size n k M) := Lib.hid (HC.out.keep HBWr.out)
              have q0 : wr.cell? ⟨wO.heap.size, 0, none⟩ = some (.string m.I) := HBXr.out.cell 0
              have q1 : wr.cell? ⟨wO.heap.size, 1, none⟩ = some (.string m.G) := HBXr.out.cell 1
              have q2 : wr.cell? ⟨wO.heap.size, 2, none⟩ = some (.string m.X) := HBXr.out.cell 2
              have q3 : wr.cell? ⟨wO.heap.size, 3, none⟩ = some (.bool m.L.P) := HBXr.out.cell 3
              have q4 : wr.cell? ⟨wO.heap.size, 4, none⟩ = some (.string m.L.F) := HBXr.out.cell 4
              have q5 : wr.cell? ⟨wO.heap.size, 5, none⟩ = some (.string m.L.N) := HBXr.out.cell 5
              have q6 : wr.cell? ⟨wO.heap.size, 6, none⟩ = some (.int .i64 m.L.i) := HBXr.out.cell 6
              have q7 : wr.cell? ⟨wO.heap.size, 7, none⟩ = some (.int .i64 m.L.j) := HBXr.out.cell 7
              have q8 : wr.cell? ⟨wO.heap.size, 8, none⟩ = some (.int .i64 m.L.k) := HBXr.out.cell 8
              have q9 : wr.cell? ⟨wO.heap.size, 9, none⟩ = some (.string m.L.T) := HBXr.out.cell 9
              have q10 : wr.cell? ⟨wO.heap.size, 10, none⟩ = some (.string m.L.S) := HBXr.out.cell 10
              have q11 : wr.cell? ⟨wO.heap.size, 11, none⟩ = some (.slice (some an) m.n cn) := HBXr.out.cell 11
              have hfq : ∀ i, wr.frozen? ⟨wO.heap.size, i, none⟩ = false := fun i => frozen_of_row wr wO.heap.size i _ _ HBXr.out
              have hne0 : ¬ wO.heap.size = w.heap.size := by omega
              have hne1 : ¬ w.heap.size = wO.heap.size := by omega
              have HBX : Hid (Below wO.heap.size wO (wr.setCell ⟨wO.heap.size, 11, none⟩ (.slice (some ⟨wO.heap.size + 1, 0, none⟩) m.n m.n))) := Lib.hid (HBWr.out.setCell (Nat.le_refl _) _)
              go_wp2_with (refine wpList_store_mid rfl 43 (.tmp 50) (.tmp 49) rfl w.heap.size (k * 12) #[.string m.I, .string m.G, .string m.X, .bool m.L.P, .string m.L.F, .string m.L.N, .int .i64 m.L.i, .int .i64 m.L.j, .int .i64 m.L.k, .string m.L.T, .string m.L.S, .slice (some ⟨wO.heap.size + 1, 0, none⟩) m.n m.n] ?_ ?_ ?_ ?_ ?_ ?_; (focus rfl); (focus rfl); (focus exact ((HC.out.keep HBX.out).there hkn)); (focus kernel_rfl); (focus kernel_rfl))
              go_roundg (n - (k + 1))
              case rel =>
                have hcn : CN (wr.setCell ⟨wO.heap.size, 11, none⟩ (.slice (some ⟨wO.heap.size + 1, 0, none⟩) m.n m.n)) w.heap.size (some ⟨wO.heap.size + 1, 0, none⟩) m := CN.keepSet (HCJ.out.cn (by omega) HN.out) _ (by omega) _
                have HST := Cln.step (HC.out.keep HBX.out) HM.out (w' := (wr.setCell ⟨wO.heap.size, 11, none⟩ (.slice (some ⟨wO.heap.size + 1, 0, none⟩) m.n m.n)).setCells w.heap.size (k * 12) [.string m.I, .string m.G, .string m.X, .bool m.L.P, .string m.L.F, .string m.L.N, .int .i64 m.L.i, .int .i64 m.L.j, .int .i64 m.L.k, .string m.L.T, .string m.L.S, .slice (some ⟨wO.heap.size + 1, 0, none⟩) m.n m.n]) hkn rfl (A1 := some ⟨wO.heap.size + 1, 0, none⟩) (c1 := m.n) hcn (by intro h; cases h) (Nat.le_refl _) (by omega)
                exact ⟨k + 1, by omega, rfl, by go_num, Lib.hid HST.1, Lib.hid (Below.grown (HB.out.trans (HBX.out.mono HB.out.size)) HST.2 (Nat.le_trans HB.out.size HBX.out.size) (fun g hg => by injection hg with hg; omega)), Nat.lt_of_lt_of_le hlt (Nat.le_trans HBX.out.size HST.2.size)⟩
              case measure => omega
      · have hkk : k = n := by omega
        subst hkk
        go_wp2_with fail
        go_ret
        exact ⟨⟨_, _, rfl, HC.out.done H.out⟩, HB.out⟩
end Go.Proofs.Ytippmlajjkdblaa
