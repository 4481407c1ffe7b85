/- FnValidateSupportedFlipAndKnownNames: the walk (printed by genVw.py). -/
import Derived.Test.YtfkchhmjfnkjbaaFmtVp
import Derived.Test.YtfkchhmjfnkjbaaFmtVq
import Derived.Test.YtfkchhmjfnkjbaaFmtVr
import Derived.Maps.Own
namespace Go.Proofs.YtfkchhmjfnkjbaaFmt
open Go.RowKit Go.Maps Go.Extern.Stop Go.Stop Go.Extern
set_option linter.unusedVariables false
set_option linter.unusedSimpArgs false
structure Known (jf cf : Ky → Option Nat) : Prop where
  bi : ∃ x, jf [98, 105, 103, 105, 110, 116] = some x ∧ x ≠ 0
  ne : jf [110, 101, 115, 116, 105, 110, 103] = none ∧ ∃ x, cf [110, 101, 115, 116, 105, 110, 103] = some x ∧ x ≠ 0
  zz : jf [122, 122, 45, 110, 111, 45, 115, 117, 99, 104, 45, 102, 101, 97, 116, 117, 114, 101] = none ∧ cf [122, 122, 45, 110, 111, 45, 115, 117, 99, 104, 45, 102, 101, 97, 116, 117, 114, 101] = none
theorem mkMap (x : Nat) (w : World) : (Instr.makeMap 27 (some (.int .i64 x))).run Tryf.prog w = .ok (.map (some w.heap.size)) (w.alloc (.map #[] 0)) := by
  simp [Instr.makeMap, asInt, asIntOf]
theorem mkMap1 (w : World) : (Instr.makeMap 27 (some (.int .i64 1))).run Tryf.prog w = .ok (.map (some w.heap.size)) (w.alloc (.map #[] 0)) := by
  simp [Instr.makeMap, asInt, asIntOf]
theorem s1 {jf cf : Ky → Option Nat} {x1 x2 a b c d m : Nat} (h : Sums jf cf [([98, 105, 103, 105, 110, 116], false)] a b c d m) (hx1 : jf [98, 105, 103, 105, 110, 116] = some x1) : x1 = a ∧ x1 = b ∧ 0 = c ∧ 0 = d ∧ 0 = m := by
  obtain ⟨h1, h2, h3, h4, h5⟩ := one_sums h
  simp [hJ, hC, hx1] at h1 h2 h3 h4 h5
  exact ⟨h1.symm, h2.symm, h3.symm, h4.symm, h5.symm⟩
theorem s2 {jf cf : Ky → Option Nat} {x1 x2 a b c d m : Nat} (h : Sums jf cf [([98, 105, 103, 105, 110, 116], true)] a b c d m) (hx1 : jf [98, 105, 103, 105, 110, 116] = some x1) : 0 = a ∧ x1 = b ∧ 0 = c ∧ 0 = d ∧ 0 = m := by
  obtain ⟨h1, h2, h3, h4, h5⟩ := one_sums h
  simp [hJ, hC, hx1] at h1 h2 h3 h4 h5
  exact ⟨h1.symm, h2.symm, h3.symm, h4.symm, h5.symm⟩
theorem s3 {jf cf : Ky → Option Nat} {x1 x2 a b c d m : Nat} (h : Sums jf cf [([110, 101, 115, 116, 105, 110, 103], false)] a b c d m) (hn1 : jf [110, 101, 115, 116, 105, 110, 103] = none) (hx2 : cf [110, 101, 115, 116, 105, 110, 103] = some x2) : 0 = a ∧ 0 = b ∧ x2 = c ∧ x2 = d ∧ 0 = m := by
  obtain ⟨h1, h2, h3, h4, h5⟩ := one_sums h
  simp [hJ, hC, hn1, hx2] at h1 h2 h3 h4 h5
  exact ⟨h1.symm, h2.symm, h3.symm, h4.symm, h5.symm⟩
theorem s4 {jf cf : Ky → Option Nat} {x1 x2 a b c d m : Nat} (h : Sums jf cf [([122, 122, 45, 110, 111, 45, 115, 117, 99, 104, 45, 102, 101, 97, 116, 117, 114, 101], true)] a b c d m) (hz1 : jf [122, 122, 45, 110, 111, 45, 115, 117, 99, 104, 45, 102, 101, 97, 116, 117, 114, 101] = none) (hz2 : cf [122, 122, 45, 110, 111, 45, 115, 117, 99, 104, 45, 102, 101, 97, 116, 117, 114, 101] = none) : 0 = a ∧ 0 = b ∧ 0 = c ∧ 0 = d ∧ 1 = m := by
  obtain ⟨h1, h2, h3, h4, h5⟩ := one_sums h
  simp [hJ, hC, hz1, hz2] at h1 h2 h3 h4 h5
  exact ⟨h1.symm, h2.symm, h3.symm, h4.symm, h5.symm⟩
theorem decE {R : Prop} [Decidable R] {b : Bool} (h : decide R = b) {f : Nat} {args : Array Value} {w : World} {E : World → Prop} (hc : Calls Tryf.prog f args w fun e w' => e = .returned (.bool (decide R)) ∧ E w') : Calls Tryf.prog f args w fun e w' => e = .returned (.bool b) ∧ E w' := by
  subst h
  exact hc
set_option maxRecDepth 200000 in
set_option maxHeartbeats 16000000 in
theorem flipLaw (F : Interp) (jf cf : Ky → Option Nat) (bj bc L : Nat) (hB : Bnd jf cf) (hK : Known jf cf) (a0 : Option Addr) (n0 c0 : Nat) (f0 : Nat → ByteArray) (a1 : Option Addr) (n1 c1 : Nat) (f1 : Nat → Bool) (w : World) (w0 : InStrs w a0 n0 c0 f0) (w1 : InBools w a1 n1 c1 f1)
    (h2L : 2 ≤ L) (hL : L ≤ w.heap.size) (hT : Tabs jf cf bj bc L w) (hF : F.told.answers w.tape) :
    Calls Tryf.prog 3 #[.slice a0 n0 c0, .slice a1 n1 c1] w fun e w' => e = .returned (.bool true) ∧ Below w.heap.size w w' := by
  have CB := zzB5 a0 n0 c0 f0 a1 n1 c1 w w0 (Nat.le_trans w1.le w1.max)
  have HF := Lib.hid hF
  have HT := Lib.hid hT
  have HB := Lib.hid hB
  have HK := Lib.hid hK
  have W0 := Lib.hid w0
  have W1 := Lib.hid w1
  have hm1 : n1 ≤ 9223372036854775807 := by have := Nat.le_trans w1.le w1.max; unfold maxLen at this; omega
  have hm0 : n0 ≤ 9223372036854775807 := by have := Nat.le_trans w0.le w0.max; unfold maxLen at this; omega
  clear hF hT hB hK w0 w1
  by_cases hS : n0 + tot f0 n0 + n1 ≤ 1048576
  · have C1 := Lib.hid (decE (decide_eq_true hS) CB)
    have HS := Lib.hid hS
    clear CB hS
    by_cases l0 : n0 ≤ 4096
    · by_cases l1 : n1 ≤ 4096
      · go_enter Tryf.func3, Tryf.ntmps3
        go_wp2_with fail
        refine C1.out.mono ?_
        rintro e w' ⟨rfl, rfl⟩
        go_wp2_with fail
        go_loopg [5, 6] n0 (fun q t i wr => w = wr ∧ ∃ k T : Nat, k ≤ n0 ∧ q = n0 - k ∧ i = .int .i64 k ∧ t = .int .i64 T ∧ T ≤ 2097152 ∧ Hid (T = n1 + tot f0 k + 16 * k))
        case atStart => exact ⟨rfl, 0, n1, Nat.zero_le _, rfl, rfl, rfl, by omega, Lib.hid (by simp [tot])⟩
        case round =>
          obtain ⟨rfl, k, T, hk, rfl, rfl, rfl, hT2, hE⟩ := hrel
          by_cases hlt : k < n0
          · obtain ⟨b, o, rfl, hb, hc⟩ := W0.out.row.at_ hlt
            have hsz : (f0 k).size ≤ 1048576 := by have := tot_at f0 hlt; have := HS.out; omega
            go_wp2_with fail
            go_roundg (n0 - (k + 1))
            case rel => exact ⟨rfl, k + 1, T + ((f0 k).size + 16), by omega, rfl, by go_num, by go_num, by have := tot_at f0 hlt; have := HS.out; have := hE.out; omega, Lib.hid (by have := hE.out; simp only [tot]; omega)⟩
            case measure => omega
          · have hkk : k = n0 := by omega
            subst hkk
            by_cases hT3 : T ≤ 1048576
            · have CS := Lib.hid (cloneS a0 k c0 f0 w W0.out.row l0)
              go_wp2_with fail
              refine CS.out.mono ?_
              rintro e w2 ⟨A, cA, rfl, hcA, hrA, hbA⟩
              have RA := Lib.hid hrA
              have BA := Lib.hid hbA
              have CBo := Lib.hid (cloneB a1 n1 c1 f1 w2 ((W1.out.row.below hbA).more hbA.size) l1)
              clear hrA hbA
              go_wp2_with fail
              refine CBo.out.mono ?_
              rintro e w3 ⟨A', cB, rfl, hcB, hrB, hbB⟩
              have RA3 : Hid (RowF w3 w3.heap.size A k (fun i => .string (f0 i))) := Lib.hid ((RA.out.below hbB).more hbB.size)
              have RB3 := Lib.hid hrB
              have BW : Hid (Below w.heap.size w w3) := Lib.hid (BA.out.trans (hbB.mono BA.out.size))
              have hmm := mkMap
              have hmm1 := mkMap1
              have MM : Hid (((w3.alloc (.map #[] 0)).alloc (.map #[] 0)).ownsMap Tryf.prog 9 (plainElem Tryf.prog 4) w3.heap.size 0 (dm [])) := Lib.hid ((World.ownsMap_made w3 _ _ _).alloc _)
              have MF : Hid (((w3.alloc (.map #[] 0)).alloc (.map #[] 0)).ownsMap Tryf.prog 9 (plainElem Tryf.prog 4) (w3.heap.size + 1) 0 (dm [])) := Lib.hid (by have := World.ownsMap_made (H := Unit) (w3.alloc (.map #[] 0)) Tryf.prog 9 (plainElem Tryf.prog 4); rw [show (w3.alloc (.map #[] 0)).heap.size = w3.heap.size + 1 by simp] at this; exact this)
              clear hrB hbB CS CBo RA BA
              by_cases hnk : n1 < k
              · go_wp2_with fail
                go_loopg [10] n1 (fun q i wr => ∃ j : Nat, j ≤ n1 ∧ q = n1 - j ∧ i = .int .i64 j ∧ Hid (wr.ownsMap Tryf.prog 9 (plainElem Tryf.prog 4) w3.heap.size j (dm (mkE f0 f1 j))) ∧ Hid (wr.ownsMap Tryf.prog 9 (plainElem Tryf.prog 4) (w3.heap.size + 1) j (dm (mkE f0 (fun i => !f1 i) j))) ∧ Hid (Below w3.heap.size w3 wr))
                case atStart => exact ⟨0, Nat.zero_le _, rfl, rfl, MM, MF, Lib.hid (((Below.refl _ _).alloc (Nat.le_refl _) _).alloc (by simp) _)⟩
                case round =>
                  obtain ⟨j, hj, rfl, rfl, HM, HN, HBr⟩ := hrel
                  by_cases hlt : j < n1
                  · obtain ⟨b, o, rfl, hb, hc⟩ := RA3.out.at_ (k := j) (by omega)
                    obtain ⟨b', o', rfl, hb', hc'⟩ := RB3.out.at_ (k := j) (by omega)
                    have hsz : (f0 j).size ≤ maxLen := by have := tot_at f0 (show j < k by omega); have := HS.out; unfold maxLen; omega
                    have q1 := (HBr.out.cell (p := ⟨b, o + j, none⟩) hb).trans hc
                    have q2 := (HBr.out.cell (p := ⟨b', o' + j, none⟩) hb').trans hc'
                    obtain ⟨x1, hrun1, hown1, hg1⟩ := (HM.out.drew).update lawS Tryf.underlying27 (by unfold maxLen; omega) (Go.WideMaps.keyOf_string_mk Tryf.underlying9 hsz) (plainElem_bool Tryf.underlying4 (f1 j))
                    have HN1 := (HN.out.drew).kept hg1 (by intro e; injection e with e; omega)
                    obtain ⟨x2, hrun2, hown2, hg2⟩ := (HN1.drew).update lawS Tryf.underlying27 (by unfold maxLen; omega) (Go.WideMaps.keyOf_string_mk Tryf.underlying9 hsz) (plainElem_bool Tryf.underlying4 (!f1 j))
                    have HBx1 : Below w3.heap.size w3 x1 := (HBr.out.drew).grown hg1 HBr.out.size (fun q e => by injection e with e; omega)
                    have q3 := (HBx1.cell (p := ⟨b, o + j, none⟩) hb).trans hc
                    have q4 := (HBx1.cell (p := ⟨b', o' + j, none⟩) hb').trans hc'
                    have HBx2 := Lib.hid ((HBx1.drew).grown hg2 HBx1.size (fun q e => by injection e with e; omega))
                    have HM2 := Lib.hid ((hown1.drew).kept hg2 (by intro e; injection e with e; omega))
                    have HN2 := Lib.hid hown2
                    clear hc hc' hown1 hown2 hg1 hg2 HN1 HBx1 hsz
                    go_wp2_with fail
                    go_region_with (fail)
                    all_goals go_wp2_with fail
                    all_goals go_region_with (fail)
                    all_goals go_wp2_with fail
                    all_goals go_roundg (n1 - (j + 1))
                    all_goals first
                      | omega
                      | (rw [show ((j : Int) + 1) = ((j + 1 : Nat) : Int) by omega]
                         exact ⟨j + 1, by omega, rfl, rfl, Lib.hid (by have := HM2.out; rw [dm_put] at this; exact this), Lib.hid (by have := HN2.out; rw [dm_put] at this; exact this), HBx2⟩)
                  · have hjj : j = n1 := by omega
                    subst hjj
                    have BWr : Hid (Below w.heap.size w wr) := Lib.hid (BW.out.trans (HBr.out.mono BW.out.size))
                    have CZ := Lib.hid (zzval F jf cf bj bc L HB.out.j HB.out.c (some w3.heap.size) _ _ wr (Nat.le_trans hL BWr.out.size) h2L (Or.inr ⟨_, rfl, HM.out⟩) (by have := mkE_len f0 f1 j; omega) (Dst.of_tidy (HM.out.tidy lawS)) (HT.out.keep fun g hg => BWr.out.block g (by omega)) (by rw [BWr.out.tape]; exact HF.out))
                    go_wp2_with fail
                    refine CZ.out.mono ?_
                    rintro e w4 ⟨a, b, c, d, m, rfl, hs, hb4⟩
                    have HS4 := Lib.hid hs
                    have BW4 : Hid (Below w.heap.size w w4) := Lib.hid (BWr.out.trans (hb4.mono BWr.out.size))
                    have HN4 := Lib.hid (ownsMap_keep HN.out (hb4.block _ HN.out.lt))
                    have CZ2 := Lib.hid (zzval F jf cf bj bc L HB.out.j HB.out.c (some (w3.heap.size + 1)) _ _ w4 (Nat.le_trans hL BW4.out.size) h2L (Or.inr ⟨_, rfl, HN4.out⟩) (by have := mkE_len f0 (fun i => !f1 i) j; omega) (Dst.of_tidy (HN4.out.tidy lawS)) (HT.out.keep fun g hg => BW4.out.block g (by omega)) (by rw [BW4.out.tape]; exact HF.out))
                    clear hs hb4 CZ HM HN
                    go_wp2_with fail
                    refine CZ2.out.mono ?_
                    rintro e w5 ⟨a', b', c', d', m', rfl, hs, hb5⟩
                    rw [neg_mkE] at hs
                    obtain ⟨lt1, lt2, lt3, lt4⟩ := HS4.out.lt HB.out
                    obtain ⟨lt1', lt2', lt3', lt4'⟩ := hs.lt HB.out
                    obtain ⟨rfl, rfl, rfl, e1, e2, e3, e4⟩ := flip HS4.out hs
                    have o1 : bits .or .u64 (a : Int) (a' : Int) = (b' : Int) := by rw [u64_or_nat _ _ lt1 lt1', e1]
                    have o2 : bits .or .u16 (c : Int) (c' : Int) = (d' : Int) := by rw [u16_or_nat _ _ lt3 lt3', e2]
                    have o3 : bits .andNot .u64 (a : Int) (b' : Int) = 0 := by
                      have := sub_mask (n := 64) (show b' < 2 ^ 64 from lt2) e3
                      rw [u64_andNot_nat _ _ lt1 lt2, show (18446744073709551615 : Nat) - b' = 2 ^ 64 - 1 - b' from rfl, this]
                      rfl
                    have o4 : bits .andNot .u16 (c : Int) (d' : Int) = 0 := by
                      have := sub_mask (n := 16) (show d' < 2 ^ 16 from lt4) e4
                      rw [u16_andNot_nat _ _ lt3 lt4, show (65535 : Nat) - d' = 2 ^ 16 - 1 - d' from rfl, this]
                      rfl
                    have Bw5 : Hid (Below w.heap.size w w5) := Lib.hid (BW4.out.trans (hb5.mono BW4.out.size))
                    clear hs hb5 CZ2 HS4 HN4 lt1 lt2 lt3 lt4 lt1' lt2' lt3' lt4' e1 e2 e3 e4
                    obtain ⟨x1, hx1, hx1z⟩ := HK.out.bi
                    obtain ⟨hn1, x2, hx2, hx2z⟩ := HK.out.ne
                    obtain ⟨hz1, hz2⟩ := HK.out.zz
                    have V := Lib.hid (And.intro hx1 (And.intro hn1 (And.intro hx2 (And.intro hz1 hz2))))
                    have p1 : ((x1 : Int) == 0) = false := by
                      rw [beq_eq_false_iff_ne]
                      omega
                    have p2 : ((x2 : Int) == 0) = false := by
                      rw [beq_eq_false_iff_ne]
                      omega
                    have p3 : ((x1 : Int) != 0) = true := by simpa using hx1z
                    have p4 : ((x2 : Int) != 0) = true := by simpa using hx2z
                    clear hx1 hn1 hx2 hz1 hz2 hx1z hx2z
                    go_wp2_with (first | (at_mapUpdate; refine wpList_mapUpdate_own _ rfl _ _ _ 27 rfl 9 4 lawS Tryf.underlying27 (plainElem Tryf.prog 4) w5.heap.size 0 (dm []) rfl (World.ownsMap_made w5 _ _ _) (by unfold maxLen; omega) _ _ _ rfl rfl (Go.WideMaps.keyOf_string_mk Tryf.underlying9 (by decide)) _ [] (plainElem_bool Tryf.underlying4 false) ?_; intro yw6 hy hg; have HY := Lib.hid hy; have BY : Hid (Below w.heap.size w yw6) := Lib.hid ((Bw5.out.alloc Bw5.out.size _).grown hg (by have := Bw5.out.size; simp; omega) (fun q e => by injection e with e; have := Bw5.out.size; omega)); clear hy hg) | fail)
                    have HY2 : Hid (yw6.ownsMap Tryf.prog 9 (plainElem Tryf.prog 4) w5.heap.size 1 (dm [([98, 105, 103, 105, 110, 116], false)])) := Lib.hid HY.out
                    have CS1 := Lib.hid (zzval F jf cf bj bc L HB.out.j HB.out.c (some w5.heap.size) _ _ yw6 (Nat.le_trans hL BY.out.size) h2L (Or.inr ⟨_, rfl, HY2.out⟩) (by simp) (Dst.of_tidy (HY2.out.tidy lawS)) (HT.out.keep fun g hg => BY.out.block g (by omega)) (by rw [BY.out.tape]; exact HF.out))
                    refine CS1.out.mono ?_
                    rintro e w6 ⟨sa, sb, sc, sd, sm, rfl, hs, hbb⟩
                    have Bw6 : Hid (Below w.heap.size w w6) := Lib.hid (BY.out.trans (hbb.mono BY.out.size))
                    obtain ⟨vx1, vn1, vx2, vz1, vz2⟩ := V.out
                    obtain ⟨rfl, rfl, rfl, rfl, rfl⟩ := s1 (x2 := 0) hs vx1
                    clear hs hbb CS1 HY HY2 BY vx1 vn1 vx2 vz1 vz2
                    go_wp2_with (first | (at_mapUpdate; refine wpList_mapUpdate_own _ rfl _ _ _ 27 rfl 9 4 lawS Tryf.underlying27 (plainElem Tryf.prog 4) w6.heap.size 0 (dm []) rfl (World.ownsMap_made w6 _ _ _) (by unfold maxLen; omega) _ _ _ rfl rfl (Go.WideMaps.keyOf_string_mk Tryf.underlying9 (by decide)) _ [] (plainElem_bool Tryf.underlying4 true) ?_; intro yw7 hy hg; have HY := Lib.hid hy; have BY : Hid (Below w.heap.size w yw7) := Lib.hid ((Bw6.out.alloc Bw6.out.size _).grown hg (by have := Bw6.out.size; simp; omega) (fun q e => by injection e with e; have := Bw6.out.size; omega)); clear hy hg) | fail)
                    have HY2 : Hid (yw7.ownsMap Tryf.prog 9 (plainElem Tryf.prog 4) w6.heap.size 1 (dm [([98, 105, 103, 105, 110, 116], true)])) := Lib.hid HY.out
                    have CS1 := Lib.hid (zzval F jf cf bj bc L HB.out.j HB.out.c (some w6.heap.size) _ _ yw7 (Nat.le_trans hL BY.out.size) h2L (Or.inr ⟨_, rfl, HY2.out⟩) (by simp) (Dst.of_tidy (HY2.out.tidy lawS)) (HT.out.keep fun g hg => BY.out.block g (by omega)) (by rw [BY.out.tape]; exact HF.out))
                    refine CS1.out.mono ?_
                    rintro e w7 ⟨sa, sb, sc, sd, sm, rfl, hs, hbb⟩
                    have Bw7 : Hid (Below w.heap.size w w7) := Lib.hid (BY.out.trans (hbb.mono BY.out.size))
                    obtain ⟨vx1, vn1, vx2, vz1, vz2⟩ := V.out
                    obtain ⟨rfl, rfl, rfl, rfl, rfl⟩ := s2 (x2 := 0) hs vx1
                    clear hs hbb CS1 HY HY2 BY vx1 vn1 vx2 vz1 vz2
                    go_wp2_with (first | (at_mapUpdate; refine wpList_mapUpdate_own _ rfl _ _ _ 27 rfl 9 4 lawS Tryf.underlying27 (plainElem Tryf.prog 4) w7.heap.size 0 (dm []) rfl (World.ownsMap_made w7 _ _ _) (by unfold maxLen; omega) _ _ _ rfl rfl (Go.WideMaps.keyOf_string_mk Tryf.underlying9 (by decide)) _ [] (plainElem_bool Tryf.underlying4 false) ?_; intro yw8 hy hg; have HY := Lib.hid hy; have BY : Hid (Below w.heap.size w yw8) := Lib.hid ((Bw7.out.alloc Bw7.out.size _).grown hg (by have := Bw7.out.size; simp; omega) (fun q e => by injection e with e; have := Bw7.out.size; omega)); clear hy hg) | fail)
                    have HY2 : Hid (yw8.ownsMap Tryf.prog 9 (plainElem Tryf.prog 4) w7.heap.size 1 (dm [([110, 101, 115, 116, 105, 110, 103], false)])) := Lib.hid HY.out
                    have CS1 := Lib.hid (zzval F jf cf bj bc L HB.out.j HB.out.c (some w7.heap.size) _ _ yw8 (Nat.le_trans hL BY.out.size) h2L (Or.inr ⟨_, rfl, HY2.out⟩) (by simp) (Dst.of_tidy (HY2.out.tidy lawS)) (HT.out.keep fun g hg => BY.out.block g (by omega)) (by rw [BY.out.tape]; exact HF.out))
                    refine CS1.out.mono ?_
                    rintro e w8 ⟨sa, sb, sc, sd, sm, rfl, hs, hbb⟩
                    have Bw8 : Hid (Below w.heap.size w w8) := Lib.hid (BY.out.trans (hbb.mono BY.out.size))
                    obtain ⟨vx1, vn1, vx2, vz1, vz2⟩ := V.out
                    obtain ⟨rfl, rfl, rfl, rfl, rfl⟩ := s3 (x1 := 0) hs vn1 vx2
                    clear hs hbb CS1 HY HY2 BY vx1 vn1 vx2 vz1 vz2
                    go_wp2_with (first | (at_mapUpdate; refine wpList_mapUpdate_own _ rfl _ _ _ 27 rfl 9 4 lawS Tryf.underlying27 (plainElem Tryf.prog 4) w8.heap.size 0 (dm []) rfl (World.ownsMap_made w8 _ _ _) (by unfold maxLen; omega) _ _ _ rfl rfl (Go.WideMaps.keyOf_string_mk Tryf.underlying9 (by decide)) _ [] (plainElem_bool Tryf.underlying4 true) ?_; intro yw9 hy hg; have HY := Lib.hid hy; have BY : Hid (Below w.heap.size w yw9) := Lib.hid ((Bw8.out.alloc Bw8.out.size _).grown hg (by have := Bw8.out.size; simp; omega) (fun q e => by injection e with e; have := Bw8.out.size; omega)); clear hy hg) | fail)
                    have HY2 : Hid (yw9.ownsMap Tryf.prog 9 (plainElem Tryf.prog 4) w8.heap.size 1 (dm [([122, 122, 45, 110, 111, 45, 115, 117, 99, 104, 45, 102, 101, 97, 116, 117, 114, 101], true)])) := Lib.hid HY.out
                    have CS1 := Lib.hid (zzval F jf cf bj bc L HB.out.j HB.out.c (some w8.heap.size) _ _ yw9 (Nat.le_trans hL BY.out.size) h2L (Or.inr ⟨_, rfl, HY2.out⟩) (by simp) (Dst.of_tidy (HY2.out.tidy lawS)) (HT.out.keep fun g hg => BY.out.block g (by omega)) (by rw [BY.out.tape]; exact HF.out))
                    refine CS1.out.mono ?_
                    rintro e w9 ⟨sa, sb, sc, sd, sm, rfl, hs, hbb⟩
                    have Bw9 : Hid (Below w.heap.size w w9) := Lib.hid (BY.out.trans (hbb.mono BY.out.size))
                    obtain ⟨vx1, vn1, vx2, vz1, vz2⟩ := V.out
                    obtain ⟨rfl, rfl, rfl, rfl, rfl⟩ := s4 (x1 := 0) (x2 := 0) hs vz1 vz2
                    clear hs hbb CS1 HY HY2 BY vx1 vn1 vx2 vz1 vz2
                    go_wp2_with fail
                    go_ret
                    exact ⟨rfl, Bw9.out⟩
              · go_wp2_with fail
                go_loopg [10] k (fun q i wr => ∃ j : Nat, j ≤ k ∧ q = k - j ∧ i = .int .i64 j ∧ Hid (wr.ownsMap Tryf.prog 9 (plainElem Tryf.prog 4) w3.heap.size j (dm (mkE f0 f1 j))) ∧ Hid (wr.ownsMap Tryf.prog 9 (plainElem Tryf.prog 4) (w3.heap.size + 1) j (dm (mkE f0 (fun i => !f1 i) j))) ∧ Hid (Below w3.heap.size w3 wr))
                case atStart => exact ⟨0, Nat.zero_le _, rfl, rfl, MM, MF, Lib.hid (((Below.refl _ _).alloc (Nat.le_refl _) _).alloc (by simp) _)⟩
                case round =>
                  obtain ⟨j, hj, rfl, rfl, HM, HN, HBr⟩ := hrel
                  by_cases hlt : j < k
                  · obtain ⟨b, o, rfl, hb, hc⟩ := RA3.out.at_ (k := j) (by omega)
                    obtain ⟨b', o', rfl, hb', hc'⟩ := RB3.out.at_ (k := j) (by omega)
                    have hsz : (f0 j).size ≤ maxLen := by have := tot_at f0 (show j < k by omega); have := HS.out; unfold maxLen; omega
                    have q1 := (HBr.out.cell (p := ⟨b, o + j, none⟩) hb).trans hc
                    have q2 := (HBr.out.cell (p := ⟨b', o' + j, none⟩) hb').trans hc'
                    obtain ⟨x1, hrun1, hown1, hg1⟩ := (HM.out.drew).update lawS Tryf.underlying27 (by unfold maxLen; omega) (Go.WideMaps.keyOf_string_mk Tryf.underlying9 hsz) (plainElem_bool Tryf.underlying4 (f1 j))
                    have HN1 := (HN.out.drew).kept hg1 (by intro e; injection e with e; omega)
                    obtain ⟨x2, hrun2, hown2, hg2⟩ := (HN1.drew).update lawS Tryf.underlying27 (by unfold maxLen; omega) (Go.WideMaps.keyOf_string_mk Tryf.underlying9 hsz) (plainElem_bool Tryf.underlying4 (!f1 j))
                    have HBx1 : Below w3.heap.size w3 x1 := (HBr.out.drew).grown hg1 HBr.out.size (fun q e => by injection e with e; omega)
                    have q3 := (HBx1.cell (p := ⟨b, o + j, none⟩) hb).trans hc
                    have q4 := (HBx1.cell (p := ⟨b', o' + j, none⟩) hb').trans hc'
                    have HBx2 := Lib.hid ((HBx1.drew).grown hg2 HBx1.size (fun q e => by injection e with e; omega))
                    have HM2 := Lib.hid ((hown1.drew).kept hg2 (by intro e; injection e with e; omega))
                    have HN2 := Lib.hid hown2
                    clear hc hc' hown1 hown2 hg1 hg2 HN1 HBx1 hsz
                    go_wp2_with fail
                    go_region_with (fail)
                    all_goals go_wp2_with fail
                    all_goals go_region_with (fail)
                    all_goals go_wp2_with fail
                    all_goals go_roundg (k - (j + 1))
                    all_goals first
                      | omega
                      | (rw [show ((j : Int) + 1) = ((j + 1 : Nat) : Int) by omega]
                         exact ⟨j + 1, by omega, rfl, rfl, Lib.hid (by have := HM2.out; rw [dm_put] at this; exact this), Lib.hid (by have := HN2.out; rw [dm_put] at this; exact this), HBx2⟩)
                  · have hjj : j = k := by omega
                    subst hjj
                    have BWr : Hid (Below w.heap.size w wr) := Lib.hid (BW.out.trans (HBr.out.mono BW.out.size))
                    have CZ := Lib.hid (zzval F jf cf bj bc L HB.out.j HB.out.c (some w3.heap.size) _ _ wr (Nat.le_trans hL BWr.out.size) h2L (Or.inr ⟨_, rfl, HM.out⟩) (by have := mkE_len f0 f1 j; omega) (Dst.of_tidy (HM.out.tidy lawS)) (HT.out.keep fun g hg => BWr.out.block g (by omega)) (by rw [BWr.out.tape]; exact HF.out))
                    go_wp2_with fail
                    refine CZ.out.mono ?_
                    rintro e w4 ⟨a, b, c, d, m, rfl, hs, hb4⟩
                    have HS4 := Lib.hid hs
                    have BW4 : Hid (Below w.heap.size w w4) := Lib.hid (BWr.out.trans (hb4.mono BWr.out.size))
                    have HN4 := Lib.hid (ownsMap_keep HN.out (hb4.block _ HN.out.lt))
                    have CZ2 := Lib.hid (zzval F jf cf bj bc L HB.out.j HB.out.c (some (w3.heap.size + 1)) _ _ w4 (Nat.le_trans hL BW4.out.size) h2L (Or.inr ⟨_, rfl, HN4.out⟩) (by have := mkE_len f0 (fun i => !f1 i) j; omega) (Dst.of_tidy (HN4.out.tidy lawS)) (HT.out.keep fun g hg => BW4.out.block g (by omega)) (by rw [BW4.out.tape]; exact HF.out))
                    clear hs hb4 CZ HM HN
                    go_wp2_with fail
                    refine CZ2.out.mono ?_
                    rintro e w5 ⟨a', b', c', d', m', rfl, hs, hb5⟩
                    rw [neg_mkE] at hs
                    obtain ⟨lt1, lt2, lt3, lt4⟩ := HS4.out.lt HB.out
                    obtain ⟨lt1', lt2', lt3', lt4'⟩ := hs.lt HB.out
                    obtain ⟨rfl, rfl, rfl, e1, e2, e3, e4⟩ := flip HS4.out hs
                    have o1 : bits .or .u64 (a : Int) (a' : Int) = (b' : Int) := by rw [u64_or_nat _ _ lt1 lt1', e1]
                    have o2 : bits .or .u16 (c : Int) (c' : Int) = (d' : Int) := by rw [u16_or_nat _ _ lt3 lt3', e2]
                    have o3 : bits .andNot .u64 (a : Int) (b' : Int) = 0 := by
                      have := sub_mask (n := 64) (show b' < 2 ^ 64 from lt2) e3
                      rw [u64_andNot_nat _ _ lt1 lt2, show (18446744073709551615 : Nat) - b' = 2 ^ 64 - 1 - b' from rfl, this]
                      rfl
                    have o4 : bits .andNot .u16 (c : Int) (d' : Int) = 0 := by
                      have := sub_mask (n := 16) (show d' < 2 ^ 16 from lt4) e4
                      rw [u16_andNot_nat _ _ lt3 lt4, show (65535 : Nat) - d' = 2 ^ 16 - 1 - d' from rfl, this]
                      rfl
                    have Bw5 : Hid (Below w.heap.size w w5) := Lib.hid (BW4.out.trans (hb5.mono BW4.out.size))
                    clear hs hb5 CZ2 HS4 HN4 lt1 lt2 lt3 lt4 lt1' lt2' lt3' lt4' e1 e2 e3 e4
                    obtain ⟨x1, hx1, hx1z⟩ := HK.out.bi
                    obtain ⟨hn1, x2, hx2, hx2z⟩ := HK.out.ne
                    obtain ⟨hz1, hz2⟩ := HK.out.zz
                    have V := Lib.hid (And.intro hx1 (And.intro hn1 (And.intro hx2 (And.intro hz1 hz2))))
                    have p1 : ((x1 : Int) == 0) = false := by
                      rw [beq_eq_false_iff_ne]
                      omega
                    have p2 : ((x2 : Int) == 0) = false := by
                      rw [beq_eq_false_iff_ne]
                      omega
                    have p3 : ((x1 : Int) != 0) = true := by simpa using hx1z
                    have p4 : ((x2 : Int) != 0) = true := by simpa using hx2z
                    clear hx1 hn1 hx2 hz1 hz2 hx1z hx2z
                    go_wp2_with (first | (at_mapUpdate; refine wpList_mapUpdate_own _ rfl _ _ _ 27 rfl 9 4 lawS Tryf.underlying27 (plainElem Tryf.prog 4) w5.heap.size 0 (dm []) rfl (World.ownsMap_made w5 _ _ _) (by unfold maxLen; omega) _ _ _ rfl rfl (Go.WideMaps.keyOf_string_mk Tryf.underlying9 (by decide)) _ [] (plainElem_bool Tryf.underlying4 false) ?_; intro yw6 hy hg; have HY := Lib.hid hy; have BY : Hid (Below w.heap.size w yw6) := Lib.hid ((Bw5.out.alloc Bw5.out.size _).grown hg (by have := Bw5.out.size; simp; omega) (fun q e => by injection e with e; have := Bw5.out.size; omega)); clear hy hg) | fail)
                    have HY2 : Hid (yw6.ownsMap Tryf.prog 9 (plainElem Tryf.prog 4) w5.heap.size 1 (dm [([98, 105, 103, 105, 110, 116], false)])) := Lib.hid HY.out
                    have CS1 := Lib.hid (zzval F jf cf bj bc L HB.out.j HB.out.c (some w5.heap.size) _ _ yw6 (Nat.le_trans hL BY.out.size) h2L (Or.inr ⟨_, rfl, HY2.out⟩) (by simp) (Dst.of_tidy (HY2.out.tidy lawS)) (HT.out.keep fun g hg => BY.out.block g (by omega)) (by rw [BY.out.tape]; exact HF.out))
                    refine CS1.out.mono ?_
                    rintro e w6 ⟨sa, sb, sc, sd, sm, rfl, hs, hbb⟩
                    have Bw6 : Hid (Below w.heap.size w w6) := Lib.hid (BY.out.trans (hbb.mono BY.out.size))
                    obtain ⟨vx1, vn1, vx2, vz1, vz2⟩ := V.out
                    obtain ⟨rfl, rfl, rfl, rfl, rfl⟩ := s1 (x2 := 0) hs vx1
                    clear hs hbb CS1 HY HY2 BY vx1 vn1 vx2 vz1 vz2
                    go_wp2_with (first | (at_mapUpdate; refine wpList_mapUpdate_own _ rfl _ _ _ 27 rfl 9 4 lawS Tryf.underlying27 (plainElem Tryf.prog 4) w6.heap.size 0 (dm []) rfl (World.ownsMap_made w6 _ _ _) (by unfold maxLen; omega) _ _ _ rfl rfl (Go.WideMaps.keyOf_string_mk Tryf.underlying9 (by decide)) _ [] (plainElem_bool Tryf.underlying4 true) ?_; intro yw7 hy hg; have HY := Lib.hid hy; have BY : Hid (Below w.heap.size w yw7) := Lib.hid ((Bw6.out.alloc Bw6.out.size _).grown hg (by have := Bw6.out.size; simp; omega) (fun q e => by injection e with e; have := Bw6.out.size; omega)); clear hy hg) | fail)
                    have HY2 : Hid (yw7.ownsMap Tryf.prog 9 (plainElem Tryf.prog 4) w6.heap.size 1 (dm [([98, 105, 103, 105, 110, 116], true)])) := Lib.hid HY.out
                    have CS1 := Lib.hid (zzval F jf cf bj bc L HB.out.j HB.out.c (some w6.heap.size) _ _ yw7 (Nat.le_trans hL BY.out.size) h2L (Or.inr ⟨_, rfl, HY2.out⟩) (by simp) (Dst.of_tidy (HY2.out.tidy lawS)) (HT.out.keep fun g hg => BY.out.block g (by omega)) (by rw [BY.out.tape]; exact HF.out))
                    refine CS1.out.mono ?_
                    rintro e w7 ⟨sa, sb, sc, sd, sm, rfl, hs, hbb⟩
                    have Bw7 : Hid (Below w.heap.size w w7) := Lib.hid (BY.out.trans (hbb.mono BY.out.size))
                    obtain ⟨vx1, vn1, vx2, vz1, vz2⟩ := V.out
                    obtain ⟨rfl, rfl, rfl, rfl, rfl⟩ := s2 (x2 := 0) hs vx1
                    clear hs hbb CS1 HY HY2 BY vx1 vn1 vx2 vz1 vz2
                    go_wp2_with (first | (at_mapUpdate; refine wpList_mapUpdate_own _ rfl _ _ _ 27 rfl 9 4 lawS Tryf.underlying27 (plainElem Tryf.prog 4) w7.heap.size 0 (dm []) rfl (World.ownsMap_made w7 _ _ _) (by unfold maxLen; omega) _ _ _ rfl rfl (Go.WideMaps.keyOf_string_mk Tryf.underlying9 (by decide)) _ [] (plainElem_bool Tryf.underlying4 false) ?_; intro yw8 hy hg; have HY := Lib.hid hy; have BY : Hid (Below w.heap.size w yw8) := Lib.hid ((Bw7.out.alloc Bw7.out.size _).grown hg (by have := Bw7.out.size; simp; omega) (fun q e => by injection e with e; have := Bw7.out.size; omega)); clear hy hg) | fail)
                    have HY2 : Hid (yw8.ownsMap Tryf.prog 9 (plainElem Tryf.prog 4) w7.heap.size 1 (dm [([110, 101, 115, 116, 105, 110, 103], false)])) := Lib.hid HY.out
                    have CS1 := Lib.hid (zzval F jf cf bj bc L HB.out.j HB.out.c (some w7.heap.size) _ _ yw8 (Nat.le_trans hL BY.out.size) h2L (Or.inr ⟨_, rfl, HY2.out⟩) (by simp) (Dst.of_tidy (HY2.out.tidy lawS)) (HT.out.keep fun g hg => BY.out.block g (by omega)) (by rw [BY.out.tape]; exact HF.out))
                    refine CS1.out.mono ?_
                    rintro e w8 ⟨sa, sb, sc, sd, sm, rfl, hs, hbb⟩
                    have Bw8 : Hid (Below w.heap.size w w8) := Lib.hid (BY.out.trans (hbb.mono BY.out.size))
                    obtain ⟨vx1, vn1, vx2, vz1, vz2⟩ := V.out
                    obtain ⟨rfl, rfl, rfl, rfl, rfl⟩ := s3 (x1 := 0) hs vn1 vx2
                    clear hs hbb CS1 HY HY2 BY vx1 vn1 vx2 vz1 vz2
                    go_wp2_with (first | (at_mapUpdate; refine wpList_mapUpdate_own _ rfl _ _ _ 27 rfl 9 4 lawS Tryf.underlying27 (plainElem Tryf.prog 4) w8.heap.size 0 (dm []) rfl (World.ownsMap_made w8 _ _ _) (by unfold maxLen; omega) _ _ _ rfl rfl (Go.WideMaps.keyOf_string_mk Tryf.underlying9 (by decide)) _ [] (plainElem_bool Tryf.underlying4 true) ?_; intro yw9 hy hg; have HY := Lib.hid hy; have BY : Hid (Below w.heap.size w yw9) := Lib.hid ((Bw8.out.alloc Bw8.out.size _).grown hg (by have := Bw8.out.size; simp; omega) (fun q e => by injection e with e; have := Bw8.out.size; omega)); clear hy hg) | fail)
                    have HY2 : Hid (yw9.ownsMap Tryf.prog 9 (plainElem Tryf.prog 4) w8.heap.size 1 (dm [([122, 122, 45, 110, 111, 45, 115, 117, 99, 104, 45, 102, 101, 97, 116, 117, 114, 101], true)])) := Lib.hid HY.out
                    have CS1 := Lib.hid (zzval F jf cf bj bc L HB.out.j HB.out.c (some w8.heap.size) _ _ yw9 (Nat.le_trans hL BY.out.size) h2L (Or.inr ⟨_, rfl, HY2.out⟩) (by simp) (Dst.of_tidy (HY2.out.tidy lawS)) (HT.out.keep fun g hg => BY.out.block g (by omega)) (by rw [BY.out.tape]; exact HF.out))
                    refine CS1.out.mono ?_
                    rintro e w9 ⟨sa, sb, sc, sd, sm, rfl, hs, hbb⟩
                    have Bw9 : Hid (Below w.heap.size w w9) := Lib.hid (BY.out.trans (hbb.mono BY.out.size))
                    obtain ⟨vx1, vn1, vx2, vz1, vz2⟩ := V.out
                    obtain ⟨rfl, rfl, rfl, rfl, rfl⟩ := s4 (x1 := 0) (x2 := 0) hs vz1 vz2
                    clear hs hbb CS1 HY HY2 BY vx1 vn1 vx2 vz1 vz2
                    go_wp2_with fail
                    go_ret
                    exact ⟨rfl, Bw9.out⟩
            · go_wp2_with fail
              go_ret
              exact ⟨rfl, Below.refl _ _⟩
      · go_enter Tryf.func3, Tryf.ntmps3
        go_wp2_with fail
        refine C1.out.mono ?_
        rintro e w' ⟨rfl, rfl⟩
        go_wp2_with fail
        go_ret
        exact ⟨rfl, Below.refl _ _⟩
    · go_enter Tryf.func3, Tryf.ntmps3
      go_wp2_with fail
      refine C1.out.mono ?_
      rintro e w' ⟨rfl, rfl⟩
      go_wp2_with fail
      go_ret
      exact ⟨rfl, Below.refl _ _⟩
  · have C1 := Lib.hid (decE (decide_eq_false hS) CB)
    clear CB hS
    go_enter Tryf.func3, Tryf.ntmps3
    go_wp2_with fail
    refine C1.out.mono ?_
    rintro e w' ⟨rfl, rfl⟩
    go_wp2_with fail
    go_ret
    exact ⟨rfl, Below.refl _ _⟩
end Go.Proofs.YtfkchhmjfnkjbaaFmt
