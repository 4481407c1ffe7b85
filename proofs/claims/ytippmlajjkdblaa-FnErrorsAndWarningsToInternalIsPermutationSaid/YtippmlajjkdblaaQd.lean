/- msgsBytes: some number, no overflow. -/
import Derived.Test.YtippmlajjkdblaaQb
namespace Go.Proofs.Ytippmlajjkdblaa
open Go.RowKit
set_option linter.unusedVariables false
set_option linter.unusedSimpArgs false
/-- A message's cells. -/
abbrev mcs (m : ZM) (An : Option Addr) (cn : Nat) : Array Value := #[.string m.I, .string m.G, .string m.X, .bool m.L.P, .string m.L.F, .string m.L.N, .int .i64 m.L.i, .int .i64 m.L.j, .int .i64 m.L.k, .string m.L.T, .string m.L.S, .slice An m.n cn]
/-- Block g holds message m. -/
def Blk (w : World) (g : Nat) (m : ZM) (An : Option Addr) (cn : Nat) : Prop := w.heap[g]? = some (.cells (mcs m An cn) 43 (0, 0))
theorem Blk.cell {w : World} {g : Nat} {m : ZM} {An : Option Addr} {cn : Nat} (h : Blk w g m An cn) (i : Nat) : w.cell? ⟨g, i, none⟩ = (mcs m An cn)[i]? := by
  rw [Lib.cell_of_heap h]
theorem Blk.keep {w w' : World} {B g : Nat} {m : ZM} {An : Option Addr} {cn : Nat} (h : Blk w g m An cn) (hb : Below B w w') (hg : g < B) : Blk w' g m An cn := (hb.block g hg).trans h
set_option maxRecDepth 100000 in
set_option maxHeartbeats 8000000 in
theorem msgsBytes (B : Nat) (A : Option Addr) (n c : Nat) (M : Nat → ZM) (w : World) (h : InMsgs w B A n M) (hB : B ≤ w.heap.size) (hS : ∀ i, i < n → (M i).Small) (hn : n ≤ 9223372036854775807) :
    Calls Try.prog 5 #[.slice A n c] w fun e w' => (∃ t : Nat, e = .returned (.int .i64 (t : Int)) ∧ t ≤ 16777216) ∧ Below w.heap.size w w' := by
  have H := Lib.hid h
  have HS := Lib.hid hS
  clear h hS
  go_enter Try.func5, Try.ntmps5
  go_wp2_with fail
  go_loopg [3, 4] n (fun q z i wr => ∃ (k s : Nat), k ≤ n ∧ q = n - k ∧ i = .int .i64 k ∧ z = .int .i64 s ∧ s ≤ 1048576 ∧ Hid (Below w.heap.size w wr))
  case atStart => exact ⟨0, 0, Nat.zero_le _, rfl, rfl, rfl, by omega, Lib.hid (Below.refl _ _)⟩
  case round =>
    obtain ⟨k, s, hk, rfl, rfl, rfl, hs, HB⟩ := hrel
    by_cases hkn : k < n
    · obtain ⟨b, o, hA, hb, hc⟩ := (H.out.below (HB.out.mono hB)) (by omega)
      obtain ⟨c0, c1, c2, k0, k1, k2, ⟨l0, l1, l2, l3, l4, l5, l6, l7, ok⟩, An, cn, c3, hno, hnil, hle, hmx⟩ := hc k hkn
      have hsm := HS.out k hkn
      subst hA
      have r0 : wr.cell? ⟨b, o + k * 12 + 3, none⟩ = _ := l0
      have r1 : wr.cell? ⟨b, o + k * 12 + 4, none⟩ = _ := l1
      have r2 : wr.cell? ⟨b, o + k * 12 + 5, none⟩ = _ := l2
      have r3 : wr.cell? ⟨b, o + k * 12 + 6, none⟩ = _ := l3
      have r4 : wr.cell? ⟨b, o + k * 12 + 7, none⟩ = _ := l4
      have r5 : wr.cell? ⟨b, o + k * 12 + 8, none⟩ = _ := l5
      have r6 : wr.cell? ⟨b, o + k * 12 + 9, none⟩ = _ := l6
      have r7 : wr.cell? ⟨b, o + k * 12 + 10, none⟩ = _ := l7
      clear hc l0 l1 l2 l3 l4 l5 l6 l7 k0 k1 k2
      have HN := Lib.hid hno
      clear hno hnil ok
      generalize M k = m at *
      obtain ⟨s0, s1, s2, HL, s3, hT, hO⟩ := hsm
      have HT := Lib.hid hT
      have HO := Lib.hid hO
      clear hT hO
      go_wp2_with fail
      obtain ⟨wa, hwa⟩ : ∃ wa, wa = wr.alloc (Obj.cells (mcs m An cn) 43) := ⟨_, rfl⟩
      rw [← hwa]
      have hbl : Blk wa wr.heap.size m An cn := by rw [hwa]; exact heap_alloc_new wr _
      have hga : wr.heap.size < wa.heap.size := by rw [hwa]; simp
      have BA : Hid (Below w.heap.size w wa) := Lib.hid (by rw [hwa]; exact HB.out.alloc HB.out.size _)
      have HNA : Hid (InNotes wa B An m.n m.T m.O) := Lib.hid (HN.out.below (by rw [hwa]; exact (Below.refl _ _).alloc (Nat.le_trans hB HB.out.size) _))
      clear hwa c0 c1 c2 r0 r1 r2 r3 r4 r5 r6 r7 c3 HN
      have e0 : wa.cell? ⟨wr.heap.size, 0, none⟩ = some (.string m.I) := hbl.cell 0
      have e1 : wa.cell? ⟨wr.heap.size, 1, none⟩ = some (.string m.G) := hbl.cell 1
      have e2 : wa.cell? ⟨wr.heap.size, 2, none⟩ = some (.string m.X) := hbl.cell 2
      have e3 : wa.cell? ⟨wr.heap.size, 3, none⟩ = some (.bool m.L.P) := hbl.cell 3
      have e4 : wa.cell? ⟨wr.heap.size, 4, none⟩ = some (.string m.L.F) := hbl.cell 4
      have e5 : wa.cell? ⟨wr.heap.size, 5, none⟩ = some (.string m.L.N) := hbl.cell 5
      have e6 : wa.cell? ⟨wr.heap.size, 6, none⟩ = some (.int .i64 m.L.i) := hbl.cell 6
      have e7 : wa.cell? ⟨wr.heap.size, 7, none⟩ = some (.int .i64 m.L.j) := hbl.cell 7
      have e8 : wa.cell? ⟨wr.heap.size, 8, none⟩ = some (.int .i64 m.L.k) := hbl.cell 8
      have e9 : wa.cell? ⟨wr.heap.size, 9, none⟩ = some (.string m.L.T) := hbl.cell 9
      have e10 : wa.cell? ⟨wr.heap.size, 10, none⟩ = some (.string m.L.S) := hbl.cell 10
      go_region_held3 (fun w' => w'.cell? ⟨wr.heap.size, 0, none⟩ = some (.string m.I) ∧ w'.cell? ⟨wr.heap.size, 1, none⟩ = some (.string m.G) ∧ w'.cell? ⟨wr.heap.size, 2, none⟩ = some (.string m.X) ∧ w'.cell? ⟨wr.heap.size, 3, none⟩ = some (.bool m.L.P) ∧ w'.cell? ⟨wr.heap.size, 4, none⟩ = some (.string m.L.F) ∧ w'.cell? ⟨wr.heap.size, 5, none⟩ = some (.string m.L.N) ∧ w'.cell? ⟨wr.heap.size, 6, none⟩ = some (.int .i64 m.L.i) ∧ w'.cell? ⟨wr.heap.size, 7, none⟩ = some (.int .i64 m.L.j) ∧ w'.cell? ⟨wr.heap.size, 8, none⟩ = some (.int .i64 m.L.k) ∧ w'.cell? ⟨wr.heap.size, 9, none⟩ = some (.string m.L.T) ∧ w'.cell? ⟨wr.heap.size, 10, none⟩ = some (.string m.L.S))
        (first
          | assumption
          | exact ⟨by assumption, by assumption, by assumption, by assumption, by assumption, by assumption, by assumption, by assumption, by assumption, by assumption, by assumption⟩)
        (first
          | (go_at_call 11; refine (locBytes m.L _ HL).mono ?_; rintro e w2 ⟨⟨nl, rfl, hnl⟩, hb2⟩; have HB2 : Hid (Below wa.heap.size wa w2) := Lib.hid (below_of_drew hb2); have f0 := (HB2.out.cell (p := ⟨wr.heap.size, 0, none⟩) hga).trans e0; have f1 := (HB2.out.cell (p := ⟨wr.heap.size, 1, none⟩) hga).trans e1; have f2 := (HB2.out.cell (p := ⟨wr.heap.size, 2, none⟩) hga).trans e2; have f3 := (HB2.out.cell (p := ⟨wr.heap.size, 3, none⟩) hga).trans e3; have f4 := (HB2.out.cell (p := ⟨wr.heap.size, 4, none⟩) hga).trans e4; have f5 := (HB2.out.cell (p := ⟨wr.heap.size, 5, none⟩) hga).trans e5; have f6 := (HB2.out.cell (p := ⟨wr.heap.size, 6, none⟩) hga).trans e6; have f7 := (HB2.out.cell (p := ⟨wr.heap.size, 7, none⟩) hga).trans e7; have f8 := (HB2.out.cell (p := ⟨wr.heap.size, 8, none⟩) hga).trans e8; have f9 := (HB2.out.cell (p := ⟨wr.heap.size, 9, none⟩) hga).trans e9; have f10 := (HB2.out.cell (p := ⟨wr.heap.size, 10, none⟩) hga).trans e10; clear hb2))
      go_ints
      have BW : Hid (Below w.heap.size w w2) := Lib.hid (BA.out.trans (HB2.out.mono BA.out.size))
      have hb0 : Blk w2 wr.heap.size m An cn := hbl.keep HB2.out hga
      have HN2 : Hid (InNotes w2 B An m.n m.T m.O) := Lib.hid (HNA.out.below (HB2.out.mono (Nat.le_trans hB BA.out.size)))
      have HBL := Lib.hid hb0
      have hg0 : wr.heap.size < w2.heap.size := Nat.lt_of_lt_of_le hga HB2.out.size
      clear hbl hb0 e0 f0 e1 f1 e2 f2 e3 f3 e4 f4 e5 f5 e6 f6 e7 f7 e8 f8 e9 f9 e10 f10
      go_wp2_with fail
      · go_ret
        exact ⟨⟨s + (64 + m.I.size + m.G.size + m.X.size + nl), by go_num, by omega⟩, BW.out⟩
      · generalize wr = wO at *
        go_loopg [3, 6] m.n (fun q z i wy => ∃ (j s : Nat), j ≤ m.n ∧ q = m.n - j ∧ i = .int .i64 j ∧ z = .int .i64 s ∧ s ≤ 1048576 ∧ Hid (Below w2.heap.size w2 wy))
        case atStart => exact ⟨0, s + (64 + m.I.size + m.G.size + m.X.size + nl), Nat.zero_le _, rfl, rfl, by go_num, by omega, Lib.hid (Below.refl _ _)⟩
        case round =>
          obtain ⟨j, s4, hj, rfl, rfl, rfl, hs4, HY⟩ := hrel
          have hg2 : wO.heap.size < wr.heap.size := Nat.lt_of_lt_of_le hg0 HY.out.size
          have hbl : Blk wr wO.heap.size m An cn := HBL.out.keep HY.out hg0
          have e0 : wr.cell? ⟨wO.heap.size, 11, none⟩ = some (.slice An m.n cn) := hbl.cell 11
          have HBL2 := Lib.hid hbl
          clear hbl
          by_cases hjn : j < m.n
          · obtain ⟨b2, o2, hA2, hb2, hc2⟩ := (HN2.out.below (HY.out.mono (Nat.le_trans hB BW.out.size))) (by omega)
            obtain ⟨e1, k0, ⟨e2, e3, e4, e5, e6, e7, e8, e9, ok2⟩⟩ := hc2 j hjn
            subst hA2
            have hbw : b2 < wr.heap.size := Nat.lt_of_lt_of_le hb2 (Nat.le_trans hB (Nat.le_trans BW.out.size HY.out.size))
            have ht := HT.out j hjn
            have HZ := Lib.hid (HO.out j hjn)
            clear hc2 k0 ok2
            generalize m.T j = t at *
            generalize m.O j = z at *
            have e3 : wr.cell? ⟨b2, o2 + j * 9 + 2, none⟩ = some (.string z.F) := e3
            have e4 : wr.cell? ⟨b2, o2 + j * 9 + 3, none⟩ = some (.string z.N) := e4
            have e5 : wr.cell? ⟨b2, o2 + j * 9 + 4, none⟩ = some (.int .i64 z.i) := e5
            have e6 : wr.cell? ⟨b2, o2 + j * 9 + 5, none⟩ = some (.int .i64 z.j) := e6
            have e7 : wr.cell? ⟨b2, o2 + j * 9 + 6, none⟩ = some (.int .i64 z.k) := e7
            have e8 : wr.cell? ⟨b2, o2 + j * 9 + 7, none⟩ = some (.string z.T) := e8
            have e9 : wr.cell? ⟨b2, o2 + j * 9 + 8, none⟩ = some (.string z.S) := e9
            go_wp2_with fail
            go_region_held3 (fun w' => w'.cell? ⟨wO.heap.size, 11, none⟩ = some (.slice (some ⟨b2, o2, none⟩) m.n cn) ∧ w'.cell? ⟨b2, o2 + j * 9, none⟩ = some (.string t) ∧ w'.cell? ⟨b2, o2 + j * 9 + 1, none⟩ = some (.bool z.P) ∧ w'.cell? ⟨b2, o2 + j * 9 + 2, none⟩ = some (.string z.F) ∧ w'.cell? ⟨b2, o2 + j * 9 + 3, none⟩ = some (.string z.N) ∧ w'.cell? ⟨b2, o2 + j * 9 + 4, none⟩ = some (.int .i64 z.i) ∧ w'.cell? ⟨b2, o2 + j * 9 + 5, none⟩ = some (.int .i64 z.j) ∧ w'.cell? ⟨b2, o2 + j * 9 + 6, none⟩ = some (.int .i64 z.k) ∧ w'.cell? ⟨b2, o2 + j * 9 + 7, none⟩ = some (.string z.T) ∧ w'.cell? ⟨b2, o2 + j * 9 + 8, none⟩ = some (.string z.S))
              (first
                | assumption
                | exact ⟨by assumption, by assumption, by assumption, by assumption, by assumption, by assumption, by assumption, by assumption, by assumption, by assumption⟩)
              (first
                | (go_at_call 11; refine (locBytes z _ HZ.out).mono ?_; rintro e w3 ⟨⟨nl, rfl, hnl⟩, hb3⟩; have HB3 : Hid (Below wr.heap.size wr w3) := Lib.hid (below_of_drew hb3); have f0 := (HB3.out.cell (p := ⟨wO.heap.size, 11, none⟩) hg2).trans e0; have f1 := (HB3.out.cell (p := ⟨b2, o2 + j * 9, none⟩) hbw).trans e1; have f2 := (HB3.out.cell (p := ⟨b2, o2 + j * 9 + 1, none⟩) hbw).trans e2; have f3 := (HB3.out.cell (p := ⟨b2, o2 + j * 9 + 2, none⟩) hbw).trans e3; have f4 := (HB3.out.cell (p := ⟨b2, o2 + j * 9 + 3, none⟩) hbw).trans e4; have f5 := (HB3.out.cell (p := ⟨b2, o2 + j * 9 + 4, none⟩) hbw).trans e5; have f6 := (HB3.out.cell (p := ⟨b2, o2 + j * 9 + 5, none⟩) hbw).trans e6; have f7 := (HB3.out.cell (p := ⟨b2, o2 + j * 9 + 6, none⟩) hbw).trans e7; have f8 := (HB3.out.cell (p := ⟨b2, o2 + j * 9 + 7, none⟩) hbw).trans e8; have f9 := (HB3.out.cell (p := ⟨b2, o2 + j * 9 + 8, none⟩) hbw).trans e9; clear hb3))
            go_ints
            have BY3 : Hid (Below w2.heap.size w2 w3) := Lib.hid (HY.out.trans (HB3.out.mono HY.out.size))
            have BW3 : Hid (Below w.heap.size w w3) := Lib.hid (BW.out.trans (BY3.out.mono BW.out.size))
            go_wp2_with fail
            · go_ret
              exact ⟨⟨s4 + (64 + t.size + nl), by go_num, by omega⟩, BW3.out⟩
            · go_roundg (m.n - (j + 1))
              case rel => exact ⟨j + 1, s4 + (64 + t.size + nl), by omega, rfl, by go_num, by go_num, by omega, BY3⟩
              case measure => omega
          · have hjj : j = m.n := by omega
            subst hjj
            go_wp2_with fail
            go_roundg (n - (k + 1))
            case rel => exact ⟨k + 1, s4, by omega, rfl, by go_num, rfl, hs4, Lib.hid (BW.out.trans (HY.out.mono BW.out.size))⟩
            case measure => omega
    · go_wp2_with fail
      go_ret
      exact ⟨⟨s, rfl, by omega⟩, HB.out⟩
end Go.Proofs.Ytippmlajjkdblaa
