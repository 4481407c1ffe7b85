/- FnMessagesToPublicSplitsOverConcatenation: the law's walk (printed by genMq.py). -/
import Derived.Test.YtnccjpkeaapefaaMo
import Derived.Test.YtnccjpkeaapefaaMg
import Derived.Lib.SliceRun
namespace Go.Proofs.Ytnccjpkeaapefaa
open Go.RowKit
set_option linter.unusedVariables false
set_option linter.unusedSimpArgs false
theorem zzconv (want ap fl s : Int) (hst : ∀ w, Calls Try.prog 15 #[.int .u8 ap, .int .u8 fl] w fun e w' => e = .returned (.int .u8 s) ∧ w' = w) (A : Option Addr) (n c : Nat) (M : Nat → MsgR) (Z : Nat → Prop) (w : World) (h : RawRow w Z A n M) (hn : n ≤ 4096) :
    Calls Try.prog 8 #[.int .u8 want, .slice A n c, .int .u8 ap, .int .u8 fl] w fun e w' => ∃ A' c', e = .returned (.slice A' (conv want s M n).length c') ∧ PubRow w' (fun g => w.heap.size ≤ g) A' (conv want s M n) ∧ Below w.heap.size w w' := by
  have C := Lib.hid (conv14 want s A n c M Z w h hn)
  have ST := Lib.hid hst
  clear h hst
  go_enter Try.func8, Try.ntmps8
  go_wp2_with (go_at_call 15; refine (ST.out _).mono ?_; rintro e w1 ⟨rfl, rfl⟩)
  refine C.out.mono ?_
  rintro e w1 ⟨A', c', rfl, hp, hb⟩
  have HP := Lib.hid hp
  have HB := Lib.hid hb
  clear hp hb
  go_wp2_with fail
  go_ret
  exact ⟨_, _, rfl, HP.out, HB.out⟩
theorem IsNotes.form {w : World} {Z : Nat → Prop} {v : Value} {n : Nat} {T : Nat → ByteArray} {O : Nat → Option PubA} (h : IsNotes w Z v n T O) : ∃ A c, v = .slice A n c := by
  rcases h with ⟨rfl, rfl⟩ | ⟨_, g, c, rfl, _⟩
  · exact ⟨_, _, rfl⟩
  · exact ⟨_, _, rfl⟩
theorem PubRow.none_iff {w : World} {Z : Nat → Prop} {A : Option Addr} {l : List MsgP} (h : PubRow w Z A l) : A.isNone = true ↔ l = [] := by
  rcases h with ⟨rfl, rfl⟩ | ⟨hl, g, rfl, _⟩
  · simp
  · simp [hl]
theorem decE {R : Prop} [Decidable R] {b : Bool} (h : decide R = b) {f : Nat} {args : Array Value} {w : World} {E : World → Prop} (hc : Calls Try.prog f args w fun e w' => e = .returned (.bool (decide R)) ∧ E w') : Calls Try.prog f args w fun e w' => e = .returned (.bool b) ∧ E w' := by
  subst h
  exact hc
set_option maxRecDepth 100000 in
set_option maxHeartbeats 4000000 in
theorem fnMessagesToPublicSplitsOverConcatenation.walk (a0 a1 : Int) (a2 : Option Addr) (n2 c2 : Nat) (f2 : Nat → Int) (a3 : Option Addr) (n3 c3 : Nat) (f3 : Nat → Int) (a4 : Option Addr) (n4 c4 : Nat) (f4 : Nat → ByteArray) (a5 : Option Addr) (n5 c5 : Nat) (f5 : Nat → ByteArray) (a6 : Option Addr) (n6 c6 : Nat) (f6 : Nat → Int) (a7 a8 : Int) (w : World)
    (w0 : (Lit.int .u8 a0).wf = true) (w1 : (Lit.int .i64 a1).wf = true) (w2 : InInts .u8 w a2 n2 c2 f2) (w3 : InInts .u8 w a3 n3 c3 f3) (w4 : InStrs w a4 n4 c4 f4) (w5 : InStrs w a5 n5 c5 f5) (w6 : InInts .u8 w a6 n6 c6 f6) (w7 : (Lit.int .u8 a7).wf = true) (w8 : (Lit.int .u8 a8).wf = true) :
    Calls Try.prog 3 #[.int .u8 a0, .int .i64 a1, .slice a2 n2 c2, .slice a3 n3 c3, .slice a4 n4 c4, .slice a5 n5 c5, .slice a6 n6 c6, .int .u8 a7, .int .u8 a8] w fun e w' => e = .returned (.bool true) ∧ Below w.heap.size w w' := by
  have CB := zzB a0 a1 a2 n2 c2 a3 n3 c3 a4 n4 c4 f4 a5 n5 c5 f5 a6 n6 c6 a7 a8 w (Nat.le_trans w2.le w2.max) (Nat.le_trans w3.le w3.max) w4 w5 (Nat.le_trans w6.le w6.max)
  have CL := lensOK a2 a3 a4 a5 a6 n2 c2 n3 c3 n4 c4 n5 c5 n6 c6 w
  have W2 := Lib.hid w2
  have W3 := Lib.hid w3
  have W4 := Lib.hid w4
  have W5 := Lib.hid w5
  have W6 := Lib.hid w6
  clear w0 w1 w2 w3 w4 w5 w6 w7 w8
  by_cases hS : n2 + n3 + n4 + tot f4 n4 + n5 + tot f5 n5 + n6 ≤ 1048576
  · have C1 := Lib.hid (decE (decide_eq_true hS) CB)
    have T4 : Hid (∀ i, i < n4 → (f4 i).size ≤ 1048576) := Lib.hid fun i hi => by have := tot_at f4 hi; omega
    have T5 : Hid (∀ i, i < n5 → (f5 i).size ≤ 1048576) := Lib.hid fun i hi => by have := tot_at f5 hi; omega
    have b2 : n2 ≤ 1048576 := by omega
    have b4 : n4 ≤ 1048576 := by omega
    have b5 : n5 ≤ 1048576 := by omega
    clear hS CB
    by_cases hL : n2 ≤ 4096 ∧ n3 ≤ 4096 ∧ n4 ≤ 4096 ∧ n5 ≤ 4096 ∧ n6 ≤ 4096
    · have C2 := Lib.hid (decE (decide_eq_true hL) CL)
      obtain ⟨l2, l3, l4, l5, l6⟩ := hL
      have C3 := Lib.hid (msgBytes a2 a3 a4 a5 a6 n2 c2 n3 c3 n4 c4 n5 c5 n6 c6 w.heap.size w.heap.size f4 f5 w W4.out.row W5.out.row b4 b5)
      have CBu := Lib.hid (build7 a2 a3 a4 a5 a6 n2 c2 n3 c3 n4 c4 n5 c5 n6 c6 f2 f3 f6 f4 f5 w W2.out W3.out W4.out W5.out W6.out l2 l3 l4 l5 l6 T4.out T5.out)
      obtain ⟨sy, _, hst⟩ := style a7 a8 w
      have ST := Lib.hid hst
      clear CL hst
      go_enter Try.func3, Try.ntmps3
      go_wp2_with fail
      refine C1.out.mono ?_
      rintro e w' ⟨rfl, rfl⟩
      go_wp2_with fail
      refine C2.out.mono ?_
      rintro e w' ⟨rfl, rfl⟩
      go_wp2_with fail
      refine C3.out.mono ?_
      rintro e w' ⟨x, rfl, rfl⟩
      by_cases hx : x ≤ 1048576
      · by_cases hc0 : 0 ≤ a1
        · obtain ⟨ct, rfl⟩ : ∃ m : Nat, a1 = (m : Int) := ⟨a1.toNat, by omega⟩
          by_cases hc1 : ct ≤ n2
          · go_wp2_with fail
            refine CBu.out.mono ?_
            rintro e w1 ⟨g, c, M, rfl, hgc, hcm, hrow, hb⟩
            have HR := Lib.hid hrow
            have HB := Lib.hid hb
            clear hrow hb
            unfold maxLen at hcm
            go_wp2_with fail
            refine (zzconv a0 a7 a8 sy ST.out (some ⟨g, 0, none⟩) n2 c M _ w1 HR.out l2).mono ?_
            rintro e w2 ⟨A1, k1, rfl, hp1, hb1⟩
            have HP1 := Lib.hid hp1
            have HB1 := Lib.hid hb1
            have HR2 := Lib.hid (HR.out.below hb1)
            clear hp1 hb1
            go_wp2_with fail
            refine (zzconv a0 a7 a8 sy ST.out (some ⟨g, 0, none⟩) ct ct M _ w2 (HR2.out.take hc1) (by omega)).mono ?_
            rintro e w3 ⟨A2, k2, rfl, hp2, hb2⟩
            have HP2 := Lib.hid hp2
            have HB2 := Lib.hid hb2
            have HR3 := Lib.hid (HR2.out.below hb2)
            have HP12 := Lib.hid (HP1.out.keep (fun _ h => h) (fun q _ hq => hb2.block q hq) hb2.size)
            clear hp2 hb2 HR2 HR
            go_wp2_with fail
            all_goals (refine (zzconv a0 a7 a8 sy ST.out _ (n2 - ct) _ (fun i => M (ct + i)) (fun b => w'.heap.size ≤ b) w3 (by first | exact fun h => absurd h (by omega) | simpa using HR3.out.drop hc1) (by omega)).mono ?_)
            all_goals (
              rintro e w4 ⟨A3, k3, rfl, hp3, hb3⟩
              have HP3 := Lib.hid (hp3.keep (Z' := fun _ => True) (fun _ _ => trivial) (fun _ _ _ => rfl) (Nat.le_refl _))
              have HP22 := Lib.hid (HP2.out.keep (Z' := fun _ => True) (fun _ _ => trivial) (fun q _ hq => hb3.block q hq) hb3.size)
              have HP11 := Lib.hid (HP12.out.keep (Z' := fun _ => True) (fun _ _ => trivial) (fun q _ hq => hb3.block q hq) hb3.size)
              have HBB := Lib.hid (((HB.out.trans (HB1.out.mono HB.out.size)).trans (HB2.out.mono (Nat.le_trans HB.out.size HB1.out.size))).trans (hb3.mono (Nat.le_trans (Nat.le_trans HB.out.size HB1.out.size) HB2.out.size)))
              have hll : conv a0 sy M n2 = conv a0 sy M ct ++ conv a0 sy (fun i => M (ct + i)) (n2 - ct) := by
                rw [← conv_add, show ct + (n2 - ct) = n2 by omega]
              have hl4 : (conv a0 sy M n2).length ≤ 4096 := Nat.le_trans (conv_len a0 sy M n2) l2
              clear hp3 hb3 HP2 HP12 HP1 HB HB1 HB2 HR3
              generalize conv a0 sy M n2 = l at *
              generalize conv a0 sy M ct = la at *
              generalize conv a0 sy (fun i => M (ct + i)) (n2 - ct) = lb at *
              have hlen : l.length = la.length + lb.length := by rw [hll, List.length_append]
              have HLL := Lib.hid hll
              clear hll
              have HNIL : Hid (∀ (w : World) A n c, (binOp .eql 30 (.slice A n c) (.slice none 0 0)).run Try.prog w = .ok (.bool A.isNone) w) := Lib.hid (fun w A n c => Lib.run_eql_slice_nil (P := Try.prog) w 30 35 A n c 0 0 Try.underlying30)
              have hnil := HNIL.out
              have hN1 : A1.isNone = (A2.isNone && A3.isNone) := by
                have q1 := HP11.out.none_iff
                have q2 := HP22.out.none_iff
                have q3 := HP3.out.none_iff
                rw [HLL.out] at q1
                cases h2 : A2.isNone <;> cases h3 : A3.isNone <;> cases h1 : A1.isNone <;> simp_all
              cases hA2 : A2.isNone <;> cases hA3 : A3.isNone <;> rw [hA2, hA3] at hN1
              all_goals simp only [Bool.and_true, Bool.and_false, Bool.true_and, Bool.false_and, Bool.and_self] at hN1
              all_goals go_wp2_with fail
              all_goals (
                go_loopg [25] l.length (fun q i wr => ∃ k : Nat, k ≤ l.length ∧ q = l.length - k ∧ i = .int .i64 k ∧ Hid (Below w4.heap.size w4 wr))
                case atStart => exact ⟨0, Nat.zero_le _, rfl, rfl, Lib.hid (Below.refl _ _)⟩
                case round =>
                  obtain ⟨k, hkl, rfl, rfl, HBr⟩ := hrel
                  by_cases hk : k < l.length
                  · obtain ⟨m, hm⟩ : ∃ m, l[k]? = some m := ⟨l[k], List.getElem?_eq_getElem hk⟩
                    rcases HP11.out with ⟨e, _⟩ | ⟨_, g1, rfl, _, hg1, hcc1⟩
                    · exact absurd (congrArg List.length e) (by simp only [List.length_nil]; omega)
                    obtain ⟨hmn, vl, vn, x0, x1, x2, x3, x4, x5, xl, xn⟩ := hcc1 k m hm
                    obtain ⟨p1, rfl⟩ := xl.form
                    obtain ⟨B1, d1, rfl⟩ := xn.form
                    have e0 := (HBr.out.cell (p := ⟨g1, k * 6, none⟩) hg1).trans x0
                    have e1 := (HBr.out.cell (p := ⟨g1, k * 6 + 1, none⟩) hg1).trans x1
                    have e2 := (HBr.out.cell (p := ⟨g1, k * 6 + 2, none⟩) hg1).trans x2
                    have e3 := (HBr.out.cell (p := ⟨g1, k * 6 + 3, none⟩) hg1).trans x3
                    have e4 := (HBr.out.cell (p := ⟨g1, k * 6 + 4, none⟩) hg1).trans x4
                    have e5 := (HBr.out.cell (p := ⟨g1, k * 6 + 5, none⟩) hg1).trans x5
                    have XL := Lib.hid (xl.keep (w' := wr) (fun _ h => h) (fun q _ hq => HBr.out.block q hq) HBr.out.size)
                    have XN := Lib.hid (xn.keep (w' := wr) (fun _ h => h) (fun q _ hq => HBr.out.block q hq) HBr.out.size)
                    clear x0 x1 x2 x3 x4 x5 xl xn hcc1
                    have hg1' : g1 < wr.heap.size := Nat.lt_of_lt_of_le hg1 HBr.out.size
                    by_cases hka : k < la.length
                    · skip
                      rcases HP22.out with ⟨e, _⟩ | ⟨_, g2, rfl, _, hg2, hcc2⟩
                      · exact absurd (congrArg List.length e) (by simp only [List.length_nil]; omega)
                      have hm2 : la[k]? = some m := by rw [← hm, HLL.out, List.getElem?_append_left hka]
                      obtain ⟨_, ul, un, y0, y1, y2, y3, y4, y5, yl, yn⟩ := hcc2 _ m hm2
                      obtain ⟨p2, rfl⟩ := yl.form
                      obtain ⟨B2, d2, rfl⟩ := yn.form
                      have f0 := (HBr.out.cell (p := ⟨g2, _, none⟩) hg2).trans y0
                      have f1 := (HBr.out.cell (p := ⟨g2, _, none⟩) hg2).trans y1
                      have f2 := (HBr.out.cell (p := ⟨g2, _, none⟩) hg2).trans y2
                      have f3 := (HBr.out.cell (p := ⟨g2, _, none⟩) hg2).trans y3
                      have f4 := (HBr.out.cell (p := ⟨g2, _, none⟩) hg2).trans y4
                      have f5 := (HBr.out.cell (p := ⟨g2, _, none⟩) hg2).trans y5
                      have YL := Lib.hid (yl.keep (w' := wr) (fun _ h => h) (fun q _ hq => HBr.out.block q hq) HBr.out.size)
                      have YN := Lib.hid (yn.keep (w' := wr) (fun _ h => h) (fun q _ hq => HBr.out.block q hq) HBr.out.size)
                      have hg2' : g2 < wr.heap.size := Nat.lt_of_lt_of_le hg2 HBr.out.size
                      clear y0 y1 y2 y3 y4 y5 yl yn hcc2 hm hm2
                      cases hA2
                      all_goals go_wp2_with fail
                      all_goals have hbw : Below wr.heap.size wr ((wr.alloc (Obj.cells #[Value.string m.id, Value.string m.plugin, Value.string m.text, Value.pointer p2, Value.slice B2 m.n d2, Value.nilIface] 35)).drew) := ((Below.refl _ wr).alloc (Nat.le_refl _) _).drew
                      all_goals have CM := Lib.hid (sameMsg #[Value.string m.id, Value.string m.plugin, Value.string m.text, Value.pointer p1, Value.slice B1 m.n d1, Value.nilIface] #[Value.string m.id, Value.string m.plugin, Value.string m.text, Value.pointer p2, Value.slice B2 m.n d2, Value.nilIface] (fun _ => True) (fun _ => True) m ((wr.alloc (Obj.cells #[Value.string m.id, Value.string m.plugin, Value.string m.text, Value.pointer p2, Value.slice B2 m.n d2, Value.nilIface] 35)).drew) ⟨⟨_, _, rfl, XL.out.below hbw, XN.out.below hbw⟩⟩ ⟨⟨_, _, rfl, YL.out.below hbw, YN.out.below hbw⟩⟩ hmn)
                      all_goals clear hbw
                      all_goals go_region_with (go_at_call 9; refine CM.out.mono ?_; rintro e w5 ⟨rfl, hb5⟩; have HB5 := Lib.hid (below_step hb5); clear hb5)
                      all_goals go_wp2_with fail
                      all_goals go_roundg (l.length - (k + 1))
                      all_goals first
                        | omega
                        | (rw [show ((k : Int) + 1) = ((k + 1 : Nat) : Int) by omega]
                           exact ⟨k + 1, by omega, rfl, rfl, Lib.hid (HBr.out.trans (HB5.out.mono HBr.out.size))⟩)
                    · have hsub : (k : Int) - (la.length : Int) = ((k - la.length : Nat) : Int) := by omega
                      rcases HP3.out with ⟨e, _⟩ | ⟨_, g2, rfl, _, hg2, hcc2⟩
                      · exact absurd (congrArg List.length e) (by simp only [List.length_nil]; omega)
                      have hm2 : lb[(k - la.length)]? = some m := by rw [← hm, HLL.out, List.getElem?_append_right (by omega)]
                      obtain ⟨_, ul, un, y0, y1, y2, y3, y4, y5, yl, yn⟩ := hcc2 _ m hm2
                      obtain ⟨p2, rfl⟩ := yl.form
                      obtain ⟨B2, d2, rfl⟩ := yn.form
                      have f0 := (HBr.out.cell (p := ⟨g2, _, none⟩) hg2).trans y0
                      have f1 := (HBr.out.cell (p := ⟨g2, _, none⟩) hg2).trans y1
                      have f2 := (HBr.out.cell (p := ⟨g2, _, none⟩) hg2).trans y2
                      have f3 := (HBr.out.cell (p := ⟨g2, _, none⟩) hg2).trans y3
                      have f4 := (HBr.out.cell (p := ⟨g2, _, none⟩) hg2).trans y4
                      have f5 := (HBr.out.cell (p := ⟨g2, _, none⟩) hg2).trans y5
                      have YL := Lib.hid (yl.keep (w' := wr) (fun _ h => h) (fun q _ hq => HBr.out.block q hq) HBr.out.size)
                      have YN := Lib.hid (yn.keep (w' := wr) (fun _ h => h) (fun q _ hq => HBr.out.block q hq) HBr.out.size)
                      have hg2' : g2 < wr.heap.size := Nat.lt_of_lt_of_le hg2 HBr.out.size
                      clear y0 y1 y2 y3 y4 y5 yl yn hcc2 hm hm2
                      cases hA3
                      all_goals go_wp2_with fail
                      skip
                      all_goals have hbw : Below wr.heap.size wr ((wr.alloc (Obj.cells #[Value.string m.id, Value.string m.plugin, Value.string m.text, Value.pointer p2, Value.slice B2 m.n d2, Value.nilIface] 35)).drew) := ((Below.refl _ wr).alloc (Nat.le_refl _) _).drew
                      all_goals have CM := Lib.hid (sameMsg #[Value.string m.id, Value.string m.plugin, Value.string m.text, Value.pointer p1, Value.slice B1 m.n d1, Value.nilIface] #[Value.string m.id, Value.string m.plugin, Value.string m.text, Value.pointer p2, Value.slice B2 m.n d2, Value.nilIface] (fun _ => True) (fun _ => True) m ((wr.alloc (Obj.cells #[Value.string m.id, Value.string m.plugin, Value.string m.text, Value.pointer p2, Value.slice B2 m.n d2, Value.nilIface] 35)).drew) ⟨⟨_, _, rfl, XL.out.below hbw, XN.out.below hbw⟩⟩ ⟨⟨_, _, rfl, YL.out.below hbw, YN.out.below hbw⟩⟩ hmn)
                      all_goals clear hbw
                      all_goals go_region_with (go_at_call 9; refine CM.out.mono ?_; rintro e w5 ⟨rfl, hb5⟩; have HB5 := Lib.hid (below_step hb5); clear hb5)
                      all_goals go_wp2_with fail
                      all_goals go_roundg (l.length - (k + 1))
                      all_goals first
                        | omega
                        | (rw [show ((k : Int) + 1) = ((k + 1 : Nat) : Int) by omega]
                           exact ⟨k + 1, by omega, rfl, rfl, Lib.hid (HBr.out.trans (HB5.out.mono HBr.out.size))⟩)
                  · have hkk : k = l.length := by omega
                    go_wp2_with fail
                    go_ret
                    exact ⟨rfl, HBB.out.trans (HBr.out.mono HBB.out.size)⟩))
          · go_wp2_with fail
            go_ret
            exact ⟨rfl, Below.refl _ _⟩
        · go_wp2_with fail
          go_ret
          exact ⟨rfl, Below.refl _ _⟩
      · go_wp2_with fail
        go_ret
        exact ⟨rfl, Below.refl _ _⟩
    · have C2 := Lib.hid (decE (decide_eq_false hL) CL)
      clear CL hL
      go_enter Try.func3, Try.ntmps3
      go_wp2_with fail
      refine C1.out.mono ?_
      rintro e w' ⟨rfl, rfl⟩
      go_wp2_with fail
      refine C2.out.mono ?_
      rintro e w' ⟨rfl, rfl⟩
      go_wp2_with fail
      go_ret
      exact ⟨rfl, Below.refl _ _⟩
  · have C1 := Lib.hid (decE (decide_eq_false hS) CB)
    clear CB CL hS
    go_enter Try.func3, Try.ntmps3
    go_wp2_with fail
    refine C1.out.mono ?_
    rintro e w' ⟨rfl, rfl⟩
    go_wp2_with fail
    go_ret
    exact ⟨rfl, Below.refl _ _⟩
end Go.Proofs.Ytnccjpkeaapefaa
