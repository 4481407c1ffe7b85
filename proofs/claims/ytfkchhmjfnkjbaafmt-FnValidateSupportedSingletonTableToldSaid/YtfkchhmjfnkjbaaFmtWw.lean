/- FnValidateSupportedSingletonTable: the walk (printed by genWw.py). -/
import Derived.Test.YtfkchhmjfnkjbaaFmtVw
import Derived.Test.YtfkchhmjfnkjbaaFmtWa
namespace Go.Proofs.YtfkchhmjfnkjbaaFmt
open Go.RowKit Go.Maps Go.Extern.Stop Go.Stop Go.Extern
set_option linter.unusedVariables false
set_option linter.unusedSimpArgs false
structure Pos (jf cf : Ky → Option Nat) : Prop where
  j : ∀ k x, jf k = some x → 0 < x
  c : ∀ k x, cf k = some x → 0 < x
theorem sums_nil {jf cf : Ky → Option Nat} {a b c d m : Nat} (h : Sums jf cf [] a b c d m) : a = 0 ∧ b = 0 ∧ c = 0 ∧ d = 0 ∧ m = 0 := ⟨h.hjf, h.hjm, h.hcf, h.hcm, h.hn⟩
theorem sums_uniq {jf cf : Ky → Option Nat} {es : En} {a b c d m a' b' c' d' m' : Nat} (h : Sums jf cf es a b c d m) (h' : Sums jf cf es a' b' c' d' m') : a' = a ∧ b' = b ∧ c' = c ∧ d' = d ∧ m' = m :=
  ⟨h'.hjf.trans h.hjf.symm, h'.hjm.trans h.hjm.symm, h'.hcf.trans h.hcf.symm, h'.hcm.trans h.hcm.symm, h'.hn.trans h.hn.symm⟩
theorem or64_0 (x : Nat) (h : x < 18446744073709551616) : bits .or .u64 (x : Int) 0 = (x : Int) := by
  have := u64_or_nat x 0 h (by decide)
  simpa using this
theorem or16_0 (x : Nat) (h : x < 65536) : bits .or .u16 (x : Int) 0 = (x : Int) := by
  have := u16_or_nat x 0 h (by decide)
  simpa using this
set_option maxRecDepth 200000 in
set_option maxHeartbeats 16000000 in
theorem tabLaw (F : Interp) (jf cf : Ky → Option Nat) (bj bc L : Nat) (hB : Bnd jf cf) (hK : Pos jf cf) (a0 : Option Addr) (n0 c0 : Nat) (f0 : Nat → ByteArray) (a1 : Option Addr) (n1 c1 : Nat) (f1 : Nat → Bool) (w : World) (w0 : InStrs w a0 n0 c0 f0) (w1 : InBools w a1 n1 c1 f1)
    (h2L : 2 ≤ L) (hL : L ≤ w.heap.size) (hT : Tabs jf cf bj bc L w) (hF : F.told.answers w.tape) :
    Calls Tryf.prog 4 #[.slice a0 n0 c0, .slice a1 n1 c1] w fun e w' => e = .returned (.bool true) ∧ Below w.heap.size w w' := by
  have CB := zzB9 a0 n0 c0 f0 a1 n1 c1 w w0 (Nat.le_trans w1.le w1.max)
  have HF := Lib.hid hF
  have HT := Lib.hid hT
  have HB := Lib.hid hB
  have HK := Lib.hid hK
  have W0 := Lib.hid w0
  have W1 := Lib.hid w1
  have hm1 : n1 ≤ 9223372036854775807 := by have := Nat.le_trans w1.le w1.max; unfold maxLen at this; omega
  have hm0 : n0 ≤ 9223372036854775807 := by have := Nat.le_trans w0.le w0.max; unfold maxLen at this; omega
  clear hF hT hB hK w0 w1
  by_cases hS : n0 + tot f0 n0 + n1 ≤ 1048576
  · have C1 := Lib.hid (decE (decide_eq_true hS) CB)
    have HS := Lib.hid hS
    clear CB hS
    by_cases l0 : n0 ≤ 4096
    · by_cases l1 : n1 ≤ 4096
      · go_enter Tryf.func4, Tryf.ntmps4
        go_wp2_with fail
        refine C1.out.mono ?_
        rintro e w' ⟨rfl, rfl⟩
        go_wp2_with fail
        go_loopg [5, 6] n0 (fun q t i wr => w = wr ∧ ∃ k T : Nat, k ≤ n0 ∧ q = n0 - k ∧ i = .int .i64 k ∧ t = .int .i64 T ∧ T ≤ 2097152 ∧ Hid (T = n1 + tot f0 k + 16 * k))
        case atStart => exact ⟨rfl, 0, n1, Nat.zero_le _, rfl, rfl, rfl, by omega, Lib.hid (by simp [tot])⟩
        case round =>
          obtain ⟨rfl, k, T, hk, rfl, rfl, rfl, hT2, hE⟩ := hrel
          by_cases hlt : k < n0
          · obtain ⟨b, o, rfl, hb, hc⟩ := W0.out.row.at_ hlt
            have hsz : (f0 k).size ≤ 1048576 := by have := tot_at f0 hlt; have := HS.out; omega
            go_wp2_with fail
            go_roundg (n0 - (k + 1))
            case rel => exact ⟨rfl, k + 1, T + ((f0 k).size + 16), by omega, rfl, by go_num, by go_num, by have := tot_at f0 hlt; have := HS.out; have := hE.out; omega, Lib.hid (by have := hE.out; simp only [tot]; omega)⟩
            case measure => omega
          · have hkk : k = n0 := by omega
            subst hkk
            by_cases hT3 : T ≤ 1048576
            · have CS := Lib.hid (cloneS a0 k c0 f0 w W0.out.row l0)
              go_wp2_with fail
              refine CS.out.mono ?_
              rintro e w2 ⟨A, cA, rfl, hcA, hrA, hbA⟩
              have RA := Lib.hid hrA
              have BA := Lib.hid hbA
              have CBo := Lib.hid (cloneB a1 n1 c1 f1 w2 ((W1.out.row.below hbA).more hbA.size) l1)
              clear hrA hbA
              go_wp2_with fail
              refine CBo.out.mono ?_
              rintro e w3 ⟨A', cB, rfl, hcB, hrB, hbB⟩
              have RA3 : Hid (RowF w3 w3.heap.size A k (fun i => .string (f0 i))) := Lib.hid ((RA.out.below hbB).more hbB.size)
              have RB3 := Lib.hid hrB
              have BW : Hid (Below w.heap.size w w3) := Lib.hid (BA.out.trans (hbB.mono BA.out.size))
              have hmm := mkMap
              have hmm1 := mkMap1
              have MM : Hid ((w3.alloc (.map #[] 0)).ownsMap Tryf.prog 9 (plainElem Tryf.prog 4) w3.heap.size 0 (dm [])) := Lib.hid (World.ownsMap_made w3 _ _ _)
              clear hrB hbB CS CBo RA BA
              by_cases hnk : n1 < k
              · go_wp2_with fail
                go_loopg [9] n1 (fun q i wr => ∃ j : Nat, j ≤ n1 ∧ q = n1 - j ∧ i = .int .i64 j ∧ Hid (wr.ownsMap Tryf.prog 9 (plainElem Tryf.prog 4) w3.heap.size j (dm (mkE f0 f1 j))) ∧ Hid (Below w3.heap.size w3 wr))
                case atStart => exact ⟨0, Nat.zero_le _, rfl, rfl, MM, Lib.hid ((Below.refl _ _).alloc (Nat.le_refl _) _)⟩
                case round =>
                  obtain ⟨j, hj, rfl, rfl, HM, HBr⟩ := hrel
                  by_cases hlt : j < n1
                  · obtain ⟨b, o, rfl, hb, hc⟩ := RA3.out.at_ (k := j) (by omega)
                    obtain ⟨b', o', rfl, hb', hc'⟩ := RB3.out.at_ (k := j) (by omega)
                    have hsz : (f0 j).size ≤ maxLen := by have := tot_at f0 (show j < k by omega); have := HS.out; unfold maxLen; omega
                    have q1 := (HBr.out.cell (p := ⟨b, o + j, none⟩) hb).trans hc
                    have q2 := (HBr.out.cell (p := ⟨b', o' + j, none⟩) hb').trans hc'
                    obtain ⟨x1, hrun1, hown1, hg1⟩ := (HM.out.drew).update lawS Tryf.underlying27 (by unfold maxLen; omega) (Go.WideMaps.keyOf_string_mk Tryf.underlying9 hsz) (plainElem_bool Tryf.underlying4 (f1 j))
                    have HBx1 := Lib.hid ((HBr.out.drew).grown hg1 HBr.out.size (fun q e => by injection e with e; omega))
                    have HM2 := Lib.hid hown1
                    clear hc hc' hown1 hg1 hsz
                    go_wp2_with fail
                    go_region_with (fail)
                    all_goals go_wp2_with fail
                    all_goals go_roundg (n1 - (j + 1))
                    all_goals first
                      | omega
                      | (rw [show ((j : Int) + 1) = ((j + 1 : Nat) : Int) by omega]
                         exact ⟨j + 1, by omega, rfl, rfl, Lib.hid (by have := HM2.out; rw [dm_put] at this; exact this), HBx1⟩)
                  · have hjj : j = n1 := by omega
                    subst hjj
                    have BWr : Hid (Below w.heap.size w wr) := Lib.hid (BW.out.trans (HBr.out.mono BW.out.size))
                    have HDS : Hid (Dst (mkE f0 f1 j)) := Lib.hid (Dst.of_tidy (HM.out.tidy lawS))
                    have CZ := Lib.hid (zzval F jf cf bj bc L HB.out.j HB.out.c (some w3.heap.size) _ _ wr (Nat.le_trans hL BWr.out.size) h2L (Or.inr ⟨_, rfl, HM.out⟩) (by have := mkE_len f0 f1 j; omega) HDS.out (HT.out.keep fun g hg => BWr.out.block g (by omega)) (by rw [BWr.out.tape]; exact HF.out))
                    go_wp2_with fail
                    refine CZ.out.mono ?_
                    rintro e w4 ⟨a, b, c, d, m, rfl, hs, hb4⟩
                    have HS4 := Lib.hid hs
                    have BW4 : Hid (Below w.heap.size w w4) := Lib.hid (BWr.out.trans (hb4.mono BWr.out.size))
                    have HM4 := Lib.hid (ownsMap_keep HM.out (hb4.block _ HM.out.lt))
                    have B34 : Hid (Below w3.heap.size w3 w4) := Lib.hid (HBr.out.trans (hb4.mono HBr.out.size))
                    have CZ2 := Lib.hid (zzval F jf cf bj bc L HB.out.j HB.out.c none 0 [] w4 (Nat.le_trans hL BW4.out.size) h2L (Or.inl ⟨rfl, rfl⟩) (by simp) List.Pairwise.nil (HT.out.keep fun g hg => BW4.out.block g (by omega)) (by rw [BW4.out.tape]; exact HF.out))
                    clear hs hb4 CZ HM BWr HBr
                    go_wp2_with fail
                    refine CZ2.out.mono ?_
                    rintro e w5 ⟨a', b', c', d', m', rfl, hs, hb5⟩
                    obtain ⟨rfl, rfl, rfl, rfl, rfl⟩ := sums_nil hs
                    have BW5 : Hid (Below w.heap.size w w5) := Lib.hid (BW4.out.trans (hb5.mono BW4.out.size))
                    have HM5 := Lib.hid (ownsMap_keep HM4.out (hb5.block _ HM4.out.lt))
                    have B35 : Hid (Below w3.heap.size w3 w5) := Lib.hid (B34.out.trans (hb5.mono B34.out.size))
                    have hlt5 : w3.heap.size < w5.heap.size := HM5.out.lt
                    have HMD : Hid ((w5.alloc (.map #[] 0)).ownsMap Tryf.prog 9 (plainElem Tryf.prog 4) w5.heap.size 0 (dm [])) := Lib.hid (World.ownsMap_made w5 _ _ _)
                    clear hs hb5 CZ2 HM4 B34 BW4
                    go_wp2_with fail
                    go_loopg [15, 16, 17, 18, 19, 21] j (fun q s1 s2 s3 s4 s5 i wr => ∃ (l : Nat) (dE : En) (A B C D M : Nat), l ≤ j ∧ q = j - l ∧ i = .int .i64 l ∧ s1 = .int .u64 A ∧ s2 = .int .u64 B ∧ s3 = .int .u16 C ∧ s4 = .int .u16 D ∧ s5 = .int .i64 M ∧ M ≤ l ∧ Hid (wr.ownsMap Tryf.prog 9 (plainElem Tryf.prog 4) w5.heap.size l (dm dE)) ∧ Hid (Done f0 l dE) ∧ Hid (Sums jf cf (dn (lft dE) (mkE f0 f1 j)) A B C D M) ∧ Hid (Below w5.heap.size w5 wr))
                    case atStart => exact ⟨0, [], 0, 0, 0, 0, 0, Nat.zero_le _, rfl, rfl, rfl, rfl, rfl, rfl, rfl, Nat.le_refl _, HMD, Lib.hid (Done.nil f0), Lib.hid (by rw [dn_lft_nil]; exact Sums.nil jf cf), Lib.hid ((Below.refl _ _).alloc (Nat.le_refl _) _)⟩
                    case round =>
                      obtain ⟨l, dE, A, B, C, D, M, hl, rfl, rfl, rfl, rfl, rfl, rfl, rfl, hMl, HD, HDn, HSm, HBl⟩ := hrel
                      by_cases hlj : l < j
                      · obtain ⟨b, o, rfl, hb, hc⟩ := RA3.out.at_ (k := l) (by omega)
                        have hsz : (f0 l).size ≤ maxLen := by have := tot_at f0 (show l < k by omega); have := HS.out; unfold maxLen; omega
                        have HBB : Hid (Below w3.heap.size w3 wr) := Lib.hid (B35.out.trans (HBl.out.mono B35.out.size))
                        have q1 := (HBB.out.cell (p := ⟨b, o + l, none⟩) hb).trans hc
                        have hwr5 : w5.heap.size ≤ wr.heap.size := HBl.out.size
                        obtain ⟨x, hrun, hat⟩ := look_bool HD.out (f0 l) hsz
                        have hx := done_look HDn.out hat (Dst.of_tidy (HD.out.tidy lawS))
                        clear hc hat
                        cases hh : has (dm dE) (.string (f0 l).data.toList) with
                        | true =>
                          rw [hx, hh] at hrun
                          have HDn2 := Lib.hid (HDn.out.skip hh)
                          have HD2 := Lib.hid (HD.out.mono (Nat.le_succ l))
                          clear hx hh hsz
                          go_wp2_with fail
                          go_roundg (j - (l + 1))
                          case rel => exact ⟨l + 1, dE, A, B, C, D, M, by omega, rfl, by go_num, rfl, rfl, rfl, rfl, rfl, by omega, HD2, HDn2, HSm, HBl⟩
                          case measure => omega
                        | false =>
                          rw [hx, hh] at hrun
                          have HKY := Lib.hid (Go.WideMaps.keyOf_string_mk Tryf.underlying9 hsz)
                          have HSZ := Lib.hid hsz
                          have HH := Lib.hid hh
                          have HMr := Lib.hid (ownsMap_keep HM5.out (HBl.out.block _ hlt5))
                          obtain ⟨k, hky⟩ : ∃ k, k = (f0 l).data.toList := ⟨_, rfl⟩
                          have HKE := Lib.hid hky
                          clear hx hh hsz hky
                          go_wp2_with (first
                            | (at_mapUpdate; refine wpList_mapUpdate_own _ rfl _ _ _ 27 rfl 9 4 lawS Tryf.underlying27 (plainElem Tryf.prog 4) w5.heap.size l (dm dE) rfl HD.out (by unfold maxLen; omega) _ _ _ rfl rfl HKY.out _ [] (plainElem_bool Tryf.underlying4 true) ?_; intro y1 hy1 hg1; have HY1 : Hid (y1.ownsMap Tryf.prog 9 (plainElem Tryf.prog 4) w5.heap.size (l + 1) (dm (putE dE (f0 l).data.toList true))) := Lib.hid (by rw [← dm_put]; exact hy1); have BY1 : Hid (Below w5.heap.size w5 y1) := Lib.hid (HBl.out.grown hg1 hwr5 (fun q e => by injection e with e; omega)); have HMy := Lib.hid (ownsMap_keep HMr.out (hg1.block _ HMr.out.lt (by intro e; injection e with e; omega))); obtain ⟨v, hrun2, hat2⟩ := look_bool HMy.out (f0 l) HSZ.out; have HAT := Lib.hid hat2; have hy1s : w5.heap.size < y1.heap.size := HY1.out.lt; clear hy1 hg1 hat2)
                            | (at_mapUpdate; refine wpList_mapUpdate_own _ rfl _ _ _ 27 rfl 9 4 lawS Tryf.underlying27 (plainElem Tryf.prog 4) y1.heap.size 0 (dm []) rfl (World.ownsMap_made y1 _ _ _) (by unfold maxLen; omega) _ _ _ rfl rfl HKY.out _ [] (plainElem_bool Tryf.underlying4 v) ?_; intro y2 hy2 hg2; have HY2 : Hid (y2.ownsMap Tryf.prog 9 (plainElem Tryf.prog 4) y1.heap.size 1 (dm [((f0 l).data.toList, v)])) := Lib.hid (by have := hy2; rw [dm_put] at this; exact this); have BY2 : Hid (Below y1.heap.size y1 y2) := Lib.hid (((Below.refl _ y1).alloc (Nat.le_refl _) _).grown hg2 (by simp) (fun q e => by injection e with e; omega)); clear hy2 hg2)
                            | fail)
                          have B52 : Hid (Below w5.heap.size w5 y2) := Lib.hid (BY1.out.trans (BY2.out.mono (Nat.le_of_lt hy1s)))
                          have BWy : Hid (Below w.heap.size w y2) := Lib.hid (BW5.out.trans (B52.out.mono BW5.out.size))
                          have CS1 := Lib.hid (zzval F jf cf bj bc L HB.out.j HB.out.c (some y1.heap.size) _ _ y2 (Nat.le_trans hL BWy.out.size) h2L (Or.inr ⟨_, rfl, HY2.out⟩) (by simp) (Dst.of_tidy (HY2.out.tidy lawS)) (HT.out.keep fun g hg => BWy.out.block g (by omega)) (by rw [BWy.out.tape]; exact HF.out))
                          refine CS1.out.mono ?_
                          rintro e w6 ⟨sa, sb, sc, sd, sm, rfl, hs1, hb6⟩
                          have B56 : Hid (Below w5.heap.size w5 w6) := Lib.hid (B52.out.trans (hb6.mono B52.out.size))
                          have HD6 : Hid (w6.ownsMap Tryf.prog 9 (plainElem Tryf.prog 4) w5.heap.size (l + 1) (dm (putE dE (f0 l).data.toList true))) := Lib.hid (ownsMap_keep (ownsMap_keep HY1.out (BY2.out.block _ hy1s)) (hb6.block _ (Nat.lt_of_lt_of_le hy1s BY2.out.size)))
                          have HDn6 := Lib.hid (HDn.out.put (dE := dE))
                          have hmem := map_look HAT.out HDS.out ((key_mkE f0 f1 _ j).2 ⟨l, hlj, rfl⟩)
                          have HSt := Lib.hid (HSm.out.step (dn_lft_put HDS.out HH.out hmem))
                          obtain ⟨ltA, ltB, ltC, ltD⟩ := HSm.out.lt HB.out
                          obtain ⟨h1, h2, h3, h4, h5⟩ := one_sums hs1
                          have hJb := HB.out.j (f0 l).data.toList
                          have hCb := HB.out.c (f0 l).data.toList
                          have hJp := HK.out.j (f0 l).data.toList
                          have hCp := HK.out.c (f0 l).data.toList
                          clear hs1 hb6 CS1 HY1 HY2 BY1 BY2 B52 BWy HMy hmem hrun hrun2 HAT
                          cases hj : jf (f0 l).data.toList with
                          | some X =>
                            have hXp := hJp X hj
                            rw [hj] at hJb
                            simp only [Option.getD_some] at hJb
                            have p1 : ((X : Int) != 0) = true := by simpa using (by omega : X ≠ 0)
                            have oA : bits .or .u64 (A : Int) (X : Int) = ((X ||| A : Nat) : Int) := by rw [u64_or_nat A X ltA hJb, Nat.or_comm]
                            have oB : bits .or .u64 (B : Int) (X : Int) = ((X ||| B : Nat) : Int) := by rw [u64_or_nat B X ltB hJb, Nat.or_comm]
                            have zA := or64_0 A ltA
                            have zC := or16_0 C ltC
                            have zD := or16_0 D ltD
                            cases v
                            · have HS6 : Hid (Sums jf cf (dn (lft (putE dE (f0 l).data.toList true)) (mkE f0 f1 j)) (X ||| A) (X ||| B) C D M) := Lib.hid (by simpa [JFf, JMf, CFf, CMf, NFf, hj, Nat.add_comm] using HSt.out)
                              obtain ⟨g1, g2, g3, g4, g5⟩ : sa = X ∧ sb = X ∧ sc = 0 ∧ sd = 0 ∧ sm = 0 := by
                                simp [hJ, hC, hj] at h1 h2 h3 h4 h5
                                exact ⟨h1, h2, h3, h4, h5⟩
                              rw [g1, g2, g3, g4, g5]
                              clear h1 h2 h3 h4 h5 g1 g2 g3 g4 g5 hJb hCb hJp hCp HSt ltA ltB ltC ltD hj
                              go_wp2_with fail
                              go_roundg (j - (l + 1))
                              case rel => exact ⟨l + 1, putE dE (f0 l).data.toList true, (X ||| A), (X ||| B), C, D, M, by omega, rfl, by go_num, by first | rfl | go_num, by first | rfl | go_num, by first | rfl | go_num, by first | rfl | go_num, by first | rfl | go_num, by omega, HD6, HDn6, HS6, B56⟩
                              case measure => omega
                            · have HS6 : Hid (Sums jf cf (dn (lft (putE dE (f0 l).data.toList true)) (mkE f0 f1 j)) A (X ||| B) C D M) := Lib.hid (by simpa [JFf, JMf, CFf, CMf, NFf, hj, Nat.add_comm] using HSt.out)
                              obtain ⟨g1, g2, g3, g4, g5⟩ : sa = 0 ∧ sb = X ∧ sc = 0 ∧ sd = 0 ∧ sm = 0 := by
                                simp [hJ, hC, hj] at h1 h2 h3 h4 h5
                                exact ⟨h1, h2, h3, h4, h5⟩
                              rw [g1, g2, g3, g4, g5]
                              clear h1 h2 h3 h4 h5 g1 g2 g3 g4 g5 hJb hCb hJp hCp HSt ltA ltB ltC ltD hj
                              go_wp2_with fail
                              go_roundg (j - (l + 1))
                              case rel => exact ⟨l + 1, putE dE (f0 l).data.toList true, A, (X ||| B), C, D, M, by omega, rfl, by go_num, by first | rfl | go_num, by first | rfl | go_num, by first | rfl | go_num, by first | rfl | go_num, by first | rfl | go_num, by omega, HD6, HDn6, HS6, B56⟩
                              case measure => omega
                          | none =>
                            cases hcc : cf (f0 l).data.toList with
                            | some X =>
                              have hXp := hCp X hcc
                              rw [hcc] at hCb
                              simp only [Option.getD_some] at hCb
                              have p1 : ((X : Int) != 0) = true := by simpa using (by omega : X ≠ 0)
                              have oC : bits .or .u16 (C : Int) (X : Int) = ((X ||| C : Nat) : Int) := by rw [u16_or_nat C X ltC hCb, Nat.or_comm]
                              have oD : bits .or .u16 (D : Int) (X : Int) = ((X ||| D : Nat) : Int) := by rw [u16_or_nat D X ltD hCb, Nat.or_comm]
                              have zA := or64_0 A ltA
                              have zB := or64_0 B ltB
                              have zC := or16_0 C ltC
                              cases v
                              · have HS6 : Hid (Sums jf cf (dn (lft (putE dE (f0 l).data.toList true)) (mkE f0 f1 j)) A B (X ||| C) (X ||| D) M) := Lib.hid (by simpa [JFf, JMf, CFf, CMf, NFf, hj, hcc, Nat.add_comm] using HSt.out)
                                obtain ⟨g1, g2, g3, g4, g5⟩ : sa = 0 ∧ sb = 0 ∧ sc = X ∧ sd = X ∧ sm = 0 := by
                                  simp [hJ, hC, hj, hcc] at h1 h2 h3 h4 h5
                                  exact ⟨h1, h2, h3, h4, h5⟩
                                rw [g1, g2, g3, g4, g5]
                                clear h1 h2 h3 h4 h5 g1 g2 g3 g4 g5 hJb hCb hJp hCp HSt ltA ltB ltC ltD hj hcc
                                go_wp2_with fail
                                go_roundg (j - (l + 1))
                                case rel => exact ⟨l + 1, putE dE (f0 l).data.toList true, A, B, (X ||| C), (X ||| D), M, by omega, rfl, by go_num, by first | rfl | go_num, by first | rfl | go_num, by first | rfl | go_num, by first | rfl | go_num, by first | rfl | go_num, by omega, HD6, HDn6, HS6, B56⟩
                                case measure => omega
                              · have HS6 : Hid (Sums jf cf (dn (lft (putE dE (f0 l).data.toList true)) (mkE f0 f1 j)) A B C (X ||| D) M) := Lib.hid (by simpa [JFf, JMf, CFf, CMf, NFf, hj, hcc, Nat.add_comm] using HSt.out)
                                obtain ⟨g1, g2, g3, g4, g5⟩ : sa = 0 ∧ sb = 0 ∧ sc = 0 ∧ sd = X ∧ sm = 0 := by
                                  simp [hJ, hC, hj, hcc] at h1 h2 h3 h4 h5
                                  exact ⟨h1, h2, h3, h4, h5⟩
                                rw [g1, g2, g3, g4, g5]
                                clear h1 h2 h3 h4 h5 g1 g2 g3 g4 g5 hJb hCb hJp hCp HSt ltA ltB ltC ltD hj hcc
                                go_wp2_with fail
                                go_roundg (j - (l + 1))
                                case rel => exact ⟨l + 1, putE dE (f0 l).data.toList true, A, B, C, (X ||| D), M, by omega, rfl, by go_num, by first | rfl | go_num, by first | rfl | go_num, by first | rfl | go_num, by first | rfl | go_num, by first | rfl | go_num, by omega, HD6, HDn6, HS6, B56⟩
                                case measure => omega
                            | none =>
                              have zA := or64_0 A ltA
                              have zB := or64_0 B ltB
                              have zC := or16_0 C ltC
                              have zD := or16_0 D ltD
                              cases v
                              · have HS6 : Hid (Sums jf cf (dn (lft (putE dE (f0 l).data.toList true)) (mkE f0 f1 j)) A B C D (M + 1)) := Lib.hid (by simpa [JFf, JMf, CFf, CMf, NFf, hj, hcc, Nat.add_comm] using HSt.out)
                                obtain ⟨g1, g2, g3, g4, g5⟩ : sa = 0 ∧ sb = 0 ∧ sc = 0 ∧ sd = 0 ∧ sm = 1 := by
                                  simp [hJ, hC, hj, hcc] at h1 h2 h3 h4 h5
                                  exact ⟨h1, h2, h3, h4, h5⟩
                                rw [g1, g2, g3, g4, g5]
                                clear h1 h2 h3 h4 h5 g1 g2 g3 g4 g5 hJb hCb hJp hCp HSt ltA ltB ltC ltD hj hcc
                                go_wp2_with fail
                                go_roundg (j - (l + 1))
                                case rel => exact ⟨l + 1, putE dE (f0 l).data.toList true, A, B, C, D, (M + 1), by omega, rfl, by go_num, by first | rfl | go_num, by first | rfl | go_num, by first | rfl | go_num, by first | rfl | go_num, by first | rfl | go_num, by omega, HD6, HDn6, HS6, B56⟩
                                case measure => omega
                              · have HS6 : Hid (Sums jf cf (dn (lft (putE dE (f0 l).data.toList true)) (mkE f0 f1 j)) A B C D (M + 1)) := Lib.hid (by simpa [JFf, JMf, CFf, CMf, NFf, hj, hcc, Nat.add_comm] using HSt.out)
                                obtain ⟨g1, g2, g3, g4, g5⟩ : sa = 0 ∧ sb = 0 ∧ sc = 0 ∧ sd = 0 ∧ sm = 1 := by
                                  simp [hJ, hC, hj, hcc] at h1 h2 h3 h4 h5
                                  exact ⟨h1, h2, h3, h4, h5⟩
                                rw [g1, g2, g3, g4, g5]
                                clear h1 h2 h3 h4 h5 g1 g2 g3 g4 g5 hJb hCb hJp hCp HSt ltA ltB ltC ltD hj hcc
                                go_wp2_with fail
                                go_roundg (j - (l + 1))
                                case rel => exact ⟨l + 1, putE dE (f0 l).data.toList true, A, B, C, D, (M + 1), by omega, rfl, by go_num, by first | rfl | go_num, by first | rfl | go_num, by first | rfl | go_num, by first | rfl | go_num, by first | rfl | go_num, by omega, HD6, HDn6, HS6, B56⟩
                                case measure => omega
                      · have hll : l = j := by omega
                        subst hll
                        have hfin := HSm.out
                        rw [dn_lft_all HDn.out] at hfin
                        obtain ⟨rfl, rfl, rfl, rfl, rfl⟩ := sums_uniq HS4.out hfin
                        clear hfin
                        go_wp2_with fail
                        go_ret
                        exact ⟨rfl, BW5.out.trans (HBl.out.mono BW5.out.size)⟩
              · go_wp2_with fail
                go_loopg [9] k (fun q i wr => ∃ j : Nat, j ≤ k ∧ q = k - j ∧ i = .int .i64 j ∧ Hid (wr.ownsMap Tryf.prog 9 (plainElem Tryf.prog 4) w3.heap.size j (dm (mkE f0 f1 j))) ∧ Hid (Below w3.heap.size w3 wr))
                case atStart => exact ⟨0, Nat.zero_le _, rfl, rfl, MM, Lib.hid ((Below.refl _ _).alloc (Nat.le_refl _) _)⟩
                case round =>
                  obtain ⟨j, hj, rfl, rfl, HM, HBr⟩ := hrel
                  by_cases hlt : j < k
                  · obtain ⟨b, o, rfl, hb, hc⟩ := RA3.out.at_ (k := j) (by omega)
                    obtain ⟨b', o', rfl, hb', hc'⟩ := RB3.out.at_ (k := j) (by omega)
                    have hsz : (f0 j).size ≤ maxLen := by have := tot_at f0 (show j < k by omega); have := HS.out; unfold maxLen; omega
                    have q1 := (HBr.out.cell (p := ⟨b, o + j, none⟩) hb).trans hc
                    have q2 := (HBr.out.cell (p := ⟨b', o' + j, none⟩) hb').trans hc'
                    obtain ⟨x1, hrun1, hown1, hg1⟩ := (HM.out.drew).update lawS Tryf.underlying27 (by unfold maxLen; omega) (Go.WideMaps.keyOf_string_mk Tryf.underlying9 hsz) (plainElem_bool Tryf.underlying4 (f1 j))
                    have HBx1 := Lib.hid ((HBr.out.drew).grown hg1 HBr.out.size (fun q e => by injection e with e; omega))
                    have HM2 := Lib.hid hown1
                    clear hc hc' hown1 hg1 hsz
                    go_wp2_with fail
                    go_region_with (fail)
                    all_goals go_wp2_with fail
                    all_goals go_roundg (k - (j + 1))
                    all_goals first
                      | omega
                      | (rw [show ((j : Int) + 1) = ((j + 1 : Nat) : Int) by omega]
                         exact ⟨j + 1, by omega, rfl, rfl, Lib.hid (by have := HM2.out; rw [dm_put] at this; exact this), HBx1⟩)
                  · have hjj : j = k := by omega
                    subst hjj
                    have BWr : Hid (Below w.heap.size w wr) := Lib.hid (BW.out.trans (HBr.out.mono BW.out.size))
                    have HDS : Hid (Dst (mkE f0 f1 j)) := Lib.hid (Dst.of_tidy (HM.out.tidy lawS))
                    have CZ := Lib.hid (zzval F jf cf bj bc L HB.out.j HB.out.c (some w3.heap.size) _ _ wr (Nat.le_trans hL BWr.out.size) h2L (Or.inr ⟨_, rfl, HM.out⟩) (by have := mkE_len f0 f1 j; omega) HDS.out (HT.out.keep fun g hg => BWr.out.block g (by omega)) (by rw [BWr.out.tape]; exact HF.out))
                    go_wp2_with fail
                    refine CZ.out.mono ?_
                    rintro e w4 ⟨a, b, c, d, m, rfl, hs, hb4⟩
                    have HS4 := Lib.hid hs
                    have BW4 : Hid (Below w.heap.size w w4) := Lib.hid (BWr.out.trans (hb4.mono BWr.out.size))
                    have HM4 := Lib.hid (ownsMap_keep HM.out (hb4.block _ HM.out.lt))
                    have B34 : Hid (Below w3.heap.size w3 w4) := Lib.hid (HBr.out.trans (hb4.mono HBr.out.size))
                    have CZ2 := Lib.hid (zzval F jf cf bj bc L HB.out.j HB.out.c none 0 [] w4 (Nat.le_trans hL BW4.out.size) h2L (Or.inl ⟨rfl, rfl⟩) (by simp) List.Pairwise.nil (HT.out.keep fun g hg => BW4.out.block g (by omega)) (by rw [BW4.out.tape]; exact HF.out))
                    clear hs hb4 CZ HM BWr HBr
                    go_wp2_with fail
                    refine CZ2.out.mono ?_
                    rintro e w5 ⟨a', b', c', d', m', rfl, hs, hb5⟩
                    obtain ⟨rfl, rfl, rfl, rfl, rfl⟩ := sums_nil hs
                    have BW5 : Hid (Below w.heap.size w w5) := Lib.hid (BW4.out.trans (hb5.mono BW4.out.size))
                    have HM5 := Lib.hid (ownsMap_keep HM4.out (hb5.block _ HM4.out.lt))
                    have B35 : Hid (Below w3.heap.size w3 w5) := Lib.hid (B34.out.trans (hb5.mono B34.out.size))
                    have hlt5 : w3.heap.size < w5.heap.size := HM5.out.lt
                    have HMD : Hid ((w5.alloc (.map #[] 0)).ownsMap Tryf.prog 9 (plainElem Tryf.prog 4) w5.heap.size 0 (dm [])) := Lib.hid (World.ownsMap_made w5 _ _ _)
                    clear hs hb5 CZ2 HM4 B34 BW4
                    go_wp2_with fail
                    go_loopg [15, 16, 17, 18, 19, 21] j (fun q s1 s2 s3 s4 s5 i wr => ∃ (l : Nat) (dE : En) (A B C D M : Nat), l ≤ j ∧ q = j - l ∧ i = .int .i64 l ∧ s1 = .int .u64 A ∧ s2 = .int .u64 B ∧ s3 = .int .u16 C ∧ s4 = .int .u16 D ∧ s5 = .int .i64 M ∧ M ≤ l ∧ Hid (wr.ownsMap Tryf.prog 9 (plainElem Tryf.prog 4) w5.heap.size l (dm dE)) ∧ Hid (Done f0 l dE) ∧ Hid (Sums jf cf (dn (lft dE) (mkE f0 f1 j)) A B C D M) ∧ Hid (Below w5.heap.size w5 wr))
                    case atStart => exact ⟨0, [], 0, 0, 0, 0, 0, Nat.zero_le _, rfl, rfl, rfl, rfl, rfl, rfl, rfl, Nat.le_refl _, HMD, Lib.hid (Done.nil f0), Lib.hid (by rw [dn_lft_nil]; exact Sums.nil jf cf), Lib.hid ((Below.refl _ _).alloc (Nat.le_refl _) _)⟩
                    case round =>
                      obtain ⟨l, dE, A, B, C, D, M, hl, rfl, rfl, rfl, rfl, rfl, rfl, rfl, hMl, HD, HDn, HSm, HBl⟩ := hrel
                      by_cases hlj : l < j
                      · obtain ⟨b, o, rfl, hb, hc⟩ := RA3.out.at_ (k := l) (by omega)
                        have hsz : (f0 l).size ≤ maxLen := by have := tot_at f0 (show l < j by omega); have := HS.out; unfold maxLen; omega
                        have HBB : Hid (Below w3.heap.size w3 wr) := Lib.hid (B35.out.trans (HBl.out.mono B35.out.size))
                        have q1 := (HBB.out.cell (p := ⟨b, o + l, none⟩) hb).trans hc
                        have hwr5 : w5.heap.size ≤ wr.heap.size := HBl.out.size
                        obtain ⟨x, hrun, hat⟩ := look_bool HD.out (f0 l) hsz
                        have hx := done_look HDn.out hat (Dst.of_tidy (HD.out.tidy lawS))
                        clear hc hat
                        cases hh : has (dm dE) (.string (f0 l).data.toList) with
                        | true =>
                          rw [hx, hh] at hrun
                          have HDn2 := Lib.hid (HDn.out.skip hh)
                          have HD2 := Lib.hid (HD.out.mono (Nat.le_succ l))
                          clear hx hh hsz
                          go_wp2_with fail
                          go_roundg (j - (l + 1))
                          case rel => exact ⟨l + 1, dE, A, B, C, D, M, by omega, rfl, by go_num, rfl, rfl, rfl, rfl, rfl, by omega, HD2, HDn2, HSm, HBl⟩
                          case measure => omega
                        | false =>
                          rw [hx, hh] at hrun
                          have HKY := Lib.hid (Go.WideMaps.keyOf_string_mk Tryf.underlying9 hsz)
                          have HSZ := Lib.hid hsz
                          have HH := Lib.hid hh
                          have HMr := Lib.hid (ownsMap_keep HM5.out (HBl.out.block _ hlt5))
                          obtain ⟨k, hky⟩ : ∃ k, k = (f0 l).data.toList := ⟨_, rfl⟩
                          have HKE := Lib.hid hky
                          clear hx hh hsz hky
                          go_wp2_with (first
                            | (at_mapUpdate; refine wpList_mapUpdate_own _ rfl _ _ _ 27 rfl 9 4 lawS Tryf.underlying27 (plainElem Tryf.prog 4) w5.heap.size l (dm dE) rfl HD.out (by unfold maxLen; omega) _ _ _ rfl rfl HKY.out _ [] (plainElem_bool Tryf.underlying4 true) ?_; intro y1 hy1 hg1; have HY1 : Hid (y1.ownsMap Tryf.prog 9 (plainElem Tryf.prog 4) w5.heap.size (l + 1) (dm (putE dE (f0 l).data.toList true))) := Lib.hid (by rw [← dm_put]; exact hy1); have BY1 : Hid (Below w5.heap.size w5 y1) := Lib.hid (HBl.out.grown hg1 hwr5 (fun q e => by injection e with e; omega)); have HMy := Lib.hid (ownsMap_keep HMr.out (hg1.block _ HMr.out.lt (by intro e; injection e with e; omega))); obtain ⟨v, hrun2, hat2⟩ := look_bool HMy.out (f0 l) HSZ.out; have HAT := Lib.hid hat2; have hy1s : w5.heap.size < y1.heap.size := HY1.out.lt; clear hy1 hg1 hat2)
                            | (at_mapUpdate; refine wpList_mapUpdate_own _ rfl _ _ _ 27 rfl 9 4 lawS Tryf.underlying27 (plainElem Tryf.prog 4) y1.heap.size 0 (dm []) rfl (World.ownsMap_made y1 _ _ _) (by unfold maxLen; omega) _ _ _ rfl rfl HKY.out _ [] (plainElem_bool Tryf.underlying4 v) ?_; intro y2 hy2 hg2; have HY2 : Hid (y2.ownsMap Tryf.prog 9 (plainElem Tryf.prog 4) y1.heap.size 1 (dm [((f0 l).data.toList, v)])) := Lib.hid (by have := hy2; rw [dm_put] at this; exact this); have BY2 : Hid (Below y1.heap.size y1 y2) := Lib.hid (((Below.refl _ y1).alloc (Nat.le_refl _) _).grown hg2 (by simp) (fun q e => by injection e with e; omega)); clear hy2 hg2)
                            | fail)
                          have B52 : Hid (Below w5.heap.size w5 y2) := Lib.hid (BY1.out.trans (BY2.out.mono (Nat.le_of_lt hy1s)))
                          have BWy : Hid (Below w.heap.size w y2) := Lib.hid (BW5.out.trans (B52.out.mono BW5.out.size))
                          have CS1 := Lib.hid (zzval F jf cf bj bc L HB.out.j HB.out.c (some y1.heap.size) _ _ y2 (Nat.le_trans hL BWy.out.size) h2L (Or.inr ⟨_, rfl, HY2.out⟩) (by simp) (Dst.of_tidy (HY2.out.tidy lawS)) (HT.out.keep fun g hg => BWy.out.block g (by omega)) (by rw [BWy.out.tape]; exact HF.out))
                          refine CS1.out.mono ?_
                          rintro e w6 ⟨sa, sb, sc, sd, sm, rfl, hs1, hb6⟩
                          have B56 : Hid (Below w5.heap.size w5 w6) := Lib.hid (B52.out.trans (hb6.mono B52.out.size))
                          have HD6 : Hid (w6.ownsMap Tryf.prog 9 (plainElem Tryf.prog 4) w5.heap.size (l + 1) (dm (putE dE (f0 l).data.toList true))) := Lib.hid (ownsMap_keep (ownsMap_keep HY1.out (BY2.out.block _ hy1s)) (hb6.block _ (Nat.lt_of_lt_of_le hy1s BY2.out.size)))
                          have HDn6 := Lib.hid (HDn.out.put (dE := dE))
                          have hmem := map_look HAT.out HDS.out ((key_mkE f0 f1 _ j).2 ⟨l, hlj, rfl⟩)
                          have HSt := Lib.hid (HSm.out.step (dn_lft_put HDS.out HH.out hmem))
                          obtain ⟨ltA, ltB, ltC, ltD⟩ := HSm.out.lt HB.out
                          obtain ⟨h1, h2, h3, h4, h5⟩ := one_sums hs1
                          have hJb := HB.out.j (f0 l).data.toList
                          have hCb := HB.out.c (f0 l).data.toList
                          have hJp := HK.out.j (f0 l).data.toList
                          have hCp := HK.out.c (f0 l).data.toList
                          clear hs1 hb6 CS1 HY1 HY2 BY1 BY2 B52 BWy HMy hmem hrun hrun2 HAT
                          cases hj : jf (f0 l).data.toList with
                          | some X =>
                            have hXp := hJp X hj
                            rw [hj] at hJb
                            simp only [Option.getD_some] at hJb
                            have p1 : ((X : Int) != 0) = true := by simpa using (by omega : X ≠ 0)
                            have oA : bits .or .u64 (A : Int) (X : Int) = ((X ||| A : Nat) : Int) := by rw [u64_or_nat A X ltA hJb, Nat.or_comm]
                            have oB : bits .or .u64 (B : Int) (X : Int) = ((X ||| B : Nat) : Int) := by rw [u64_or_nat B X ltB hJb, Nat.or_comm]
                            have zA := or64_0 A ltA
                            have zC := or16_0 C ltC
                            have zD := or16_0 D ltD
                            cases v
                            · have HS6 : Hid (Sums jf cf (dn (lft (putE dE (f0 l).data.toList true)) (mkE f0 f1 j)) (X ||| A) (X ||| B) C D M) := Lib.hid (by simpa [JFf, JMf, CFf, CMf, NFf, hj, Nat.add_comm] using HSt.out)
                              obtain ⟨g1, g2, g3, g4, g5⟩ : sa = X ∧ sb = X ∧ sc = 0 ∧ sd = 0 ∧ sm = 0 := by
                                simp [hJ, hC, hj] at h1 h2 h3 h4 h5
                                exact ⟨h1, h2, h3, h4, h5⟩
                              rw [g1, g2, g3, g4, g5]
                              clear h1 h2 h3 h4 h5 g1 g2 g3 g4 g5 hJb hCb hJp hCp HSt ltA ltB ltC ltD hj
                              go_wp2_with fail
                              go_roundg (j - (l + 1))
                              case rel => exact ⟨l + 1, putE dE (f0 l).data.toList true, (X ||| A), (X ||| B), C, D, M, by omega, rfl, by go_num, by first | rfl | go_num, by first | rfl | go_num, by first | rfl | go_num, by first | rfl | go_num, by first | rfl | go_num, by omega, HD6, HDn6, HS6, B56⟩
                              case measure => omega
                            · have HS6 : Hid (Sums jf cf (dn (lft (putE dE (f0 l).data.toList true)) (mkE f0 f1 j)) A (X ||| B) C D M) := Lib.hid (by simpa [JFf, JMf, CFf, CMf, NFf, hj, Nat.add_comm] using HSt.out)
                              obtain ⟨g1, g2, g3, g4, g5⟩ : sa = 0 ∧ sb = X ∧ sc = 0 ∧ sd = 0 ∧ sm = 0 := by
                                simp [hJ, hC, hj] at h1 h2 h3 h4 h5
                                exact ⟨h1, h2, h3, h4, h5⟩
                              rw [g1, g2, g3, g4, g5]
                              clear h1 h2 h3 h4 h5 g1 g2 g3 g4 g5 hJb hCb hJp hCp HSt ltA ltB ltC ltD hj
                              go_wp2_with fail
                              go_roundg (j - (l + 1))
                              case rel => exact ⟨l + 1, putE dE (f0 l).data.toList true, A, (X ||| B), C, D, M, by omega, rfl, by go_num, by first | rfl | go_num, by first | rfl | go_num, by first | rfl | go_num, by first | rfl | go_num, by first | rfl | go_num, by omega, HD6, HDn6, HS6, B56⟩
                              case measure => omega
                          | none =>
                            cases hcc : cf (f0 l).data.toList with
                            | some X =>
                              have hXp := hCp X hcc
                              rw [hcc] at hCb
                              simp only [Option.getD_some] at hCb
                              have p1 : ((X : Int) != 0) = true := by simpa using (by omega : X ≠ 0)
                              have oC : bits .or .u16 (C : Int) (X : Int) = ((X ||| C : Nat) : Int) := by rw [u16_or_nat C X ltC hCb, Nat.or_comm]
                              have oD : bits .or .u16 (D : Int) (X : Int) = ((X ||| D : Nat) : Int) := by rw [u16_or_nat D X ltD hCb, Nat.or_comm]
                              have zA := or64_0 A ltA
                              have zB := or64_0 B ltB
                              have zC := or16_0 C ltC
                              cases v
                              · have HS6 : Hid (Sums jf cf (dn (lft (putE dE (f0 l).data.toList true)) (mkE f0 f1 j)) A B (X ||| C) (X ||| D) M) := Lib.hid (by simpa [JFf, JMf, CFf, CMf, NFf, hj, hcc, Nat.add_comm] using HSt.out)
                                obtain ⟨g1, g2, g3, g4, g5⟩ : sa = 0 ∧ sb = 0 ∧ sc = X ∧ sd = X ∧ sm = 0 := by
                                  simp [hJ, hC, hj, hcc] at h1 h2 h3 h4 h5
                                  exact ⟨h1, h2, h3, h4, h5⟩
                                rw [g1, g2, g3, g4, g5]
                                clear h1 h2 h3 h4 h5 g1 g2 g3 g4 g5 hJb hCb hJp hCp HSt ltA ltB ltC ltD hj hcc
                                go_wp2_with fail
                                go_roundg (j - (l + 1))
                                case rel => exact ⟨l + 1, putE dE (f0 l).data.toList true, A, B, (X ||| C), (X ||| D), M, by omega, rfl, by go_num, by first | rfl | go_num, by first | rfl | go_num, by first | rfl | go_num, by first | rfl | go_num, by first | rfl | go_num, by omega, HD6, HDn6, HS6, B56⟩
                                case measure => omega
                              · have HS6 : Hid (Sums jf cf (dn (lft (putE dE (f0 l).data.toList true)) (mkE f0 f1 j)) A B C (X ||| D) M) := Lib.hid (by simpa [JFf, JMf, CFf, CMf, NFf, hj, hcc, Nat.add_comm] using HSt.out)
                                obtain ⟨g1, g2, g3, g4, g5⟩ : sa = 0 ∧ sb = 0 ∧ sc = 0 ∧ sd = X ∧ sm = 0 := by
                                  simp [hJ, hC, hj, hcc] at h1 h2 h3 h4 h5
                                  exact ⟨h1, h2, h3, h4, h5⟩
                                rw [g1, g2, g3, g4, g5]
                                clear h1 h2 h3 h4 h5 g1 g2 g3 g4 g5 hJb hCb hJp hCp HSt ltA ltB ltC ltD hj hcc
                                go_wp2_with fail
                                go_roundg (j - (l + 1))
                                case rel => exact ⟨l + 1, putE dE (f0 l).data.toList true, A, B, C, (X ||| D), M, by omega, rfl, by go_num, by first | rfl | go_num, by first | rfl | go_num, by first | rfl | go_num, by first | rfl | go_num, by first | rfl | go_num, by omega, HD6, HDn6, HS6, B56⟩
                                case measure => omega
                            | none =>
                              have zA := or64_0 A ltA
                              have zB := or64_0 B ltB
                              have zC := or16_0 C ltC
                              have zD := or16_0 D ltD
                              cases v
                              · have HS6 : Hid (Sums jf cf (dn (lft (putE dE (f0 l).data.toList true)) (mkE f0 f1 j)) A B C D (M + 1)) := Lib.hid (by simpa [JFf, JMf, CFf, CMf, NFf, hj, hcc, Nat.add_comm] using HSt.out)
                                obtain ⟨g1, g2, g3, g4, g5⟩ : sa = 0 ∧ sb = 0 ∧ sc = 0 ∧ sd = 0 ∧ sm = 1 := by
                                  simp [hJ, hC, hj, hcc] at h1 h2 h3 h4 h5
                                  exact ⟨h1, h2, h3, h4, h5⟩
                                rw [g1, g2, g3, g4, g5]
                                clear h1 h2 h3 h4 h5 g1 g2 g3 g4 g5 hJb hCb hJp hCp HSt ltA ltB ltC ltD hj hcc
                                go_wp2_with fail
                                go_roundg (j - (l + 1))
                                case rel => exact ⟨l + 1, putE dE (f0 l).data.toList true, A, B, C, D, (M + 1), by omega, rfl, by go_num, by first | rfl | go_num, by first | rfl | go_num, by first | rfl | go_num, by first | rfl | go_num, by first | rfl | go_num, by omega, HD6, HDn6, HS6, B56⟩
                                case measure => omega
                              · have HS6 : Hid (Sums jf cf (dn (lft (putE dE (f0 l).data.toList true)) (mkE f0 f1 j)) A B C D (M + 1)) := Lib.hid (by simpa [JFf, JMf, CFf, CMf, NFf, hj, hcc, Nat.add_comm] using HSt.out)
                                obtain ⟨g1, g2, g3, g4, g5⟩ : sa = 0 ∧ sb = 0 ∧ sc = 0 ∧ sd = 0 ∧ sm = 1 := by
                                  simp [hJ, hC, hj, hcc] at h1 h2 h3 h4 h5
                                  exact ⟨h1, h2, h3, h4, h5⟩
                                rw [g1, g2, g3, g4, g5]
                                clear h1 h2 h3 h4 h5 g1 g2 g3 g4 g5 hJb hCb hJp hCp HSt ltA ltB ltC ltD hj hcc
                                go_wp2_with fail
                                go_roundg (j - (l + 1))
                                case rel => exact ⟨l + 1, putE dE (f0 l).data.toList true, A, B, C, D, (M + 1), by omega, rfl, by go_num, by first | rfl | go_num, by first | rfl | go_num, by first | rfl | go_num, by first | rfl | go_num, by first | rfl | go_num, by omega, HD6, HDn6, HS6, B56⟩
                                case measure => omega
                      · have hll : l = j := by omega
                        subst hll
                        have hfin := HSm.out
                        rw [dn_lft_all HDn.out] at hfin
                        obtain ⟨rfl, rfl, rfl, rfl, rfl⟩ := sums_uniq HS4.out hfin
                        clear hfin
                        go_wp2_with fail
                        go_ret
                        exact ⟨rfl, BW5.out.trans (HBl.out.mono BW5.out.size)⟩
            · go_wp2_with fail
              go_ret
              exact ⟨rfl, Below.refl _ _⟩
      · go_enter Tryf.func4, Tryf.ntmps4
        go_wp2_with fail
        refine C1.out.mono ?_
        rintro e w' ⟨rfl, rfl⟩
        go_wp2_with fail
        go_ret
        exact ⟨rfl, Below.refl _ _⟩
    · go_enter Tryf.func4, Tryf.ntmps4
      go_wp2_with fail
      refine C1.out.mono ?_
      rintro e w' ⟨rfl, rfl⟩
      go_wp2_with fail
      go_ret
      exact ⟨rfl, Below.refl _ _⟩
  · have C1 := Lib.hid (decE (decide_eq_false hS) CB)
    clear CB hS
    go_enter Tryf.func4, Tryf.ntmps4
    go_wp2_with fail
    refine C1.out.mono ?_
    rintro e w' ⟨rfl, rfl⟩
    go_wp2_with fail
    go_ret
    exact ⟨rfl, Below.refl _ _⟩
end Go.Proofs.YtfkchhmjfnkjbaaFmt
