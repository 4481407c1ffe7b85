/- FnErrorsAndWarningsToInternalIsPermutation: the law's walk. -/
import Derived.Test.YtippmlajjkdblaaQk
import Derived.Deep.RegionHeld3
namespace Go.Proofs.Ytippmlajjkdblaa
open Go.RowKit
set_option linter.unusedVariables false
set_option linter.unusedSimpArgs false
theorem Kt.weak {L L' : Nat} {w w' : World} (h : Kt L w w') (hL : L' ≤ L) : Kt L' w w' := ⟨h.os, h.tape, h.output, h.size, fun g hg => h.low g (by omega), h.oth⟩
theorem cnt_ind {α : Type} (p : α → Bool) (Q : Nat → α) (n : Nat) {b : Bool} (h : p (Q n) = b) {a : Nat} (ha : a = cnt p Q n) : a + ind b = cnt p Q (n + 1) := by
  subst h ha
  rfl
theorem own_addr {w : World} {base t s n c : Nat} {A : Option Addr} {xs : List Value} (h : w.ownsRow base t s (.slice A n c) n xs) (hn : 0 < n) : ∃ g, A = some ⟨g, 0, none⟩ := by
  rcases h.2 with ⟨_, e⟩ | ⟨g, cap, cur, e, _⟩
  · omega
  · injection e with e
    exact ⟨g, e⟩
theorem msgEqB (q q' : Grp) (Z Z' : Nat → Prop) (m m' : MsgR) (b : Bool) (p p' : Option Addr) (w : World) (h : IsG w Z q m) (h' : IsG w Z' q' m') (hb : eqM m m' = b) (hp : locv q.l = .pointer p) (hp' : locv q'.l = .pointer p') :
    Calls Try.prog 10 #[.agg #[.slice q.A q.n q.c, .string q.p, .nilIface, .pointer p, .string q.t, .bool false, .int .u8 q.kind, .int .u8 q.id], .agg #[.slice q'.A q'.n q'.c, .string q'.p, .nilIface, .pointer p', .string q'.t, .bool false, .int .u8 q'.kind, .int .u8 q'.id]] w fun e w' => e = .returned (.bool b) ∧ Below w.heap.size w w' := by
  subst hb
  rw [← hp, ← hp']
  exact msgEq q q' Z Z' m m' w h h'
theorem locv_ptr (l : Option Nat) : ∃ p, locv l = .pointer p := by
  cases l with
  | none => exact ⟨_, rfl⟩
  | some b => exact ⟨_, rfl⟩
set_option maxRecDepth 100000 in
set_option maxHeartbeats 16000000 in
theorem law.walk (A : Option Addr) (n c : Nat) (M : Nat → ZM) (A' : Option Addr) (n' c' : Nat) (M' : Nat → ZM) (w : World) (h : InMsgs w w.heap.size A n M) (h' : InMsgs w w.heap.size A' n' M') (hn : n ≤ 9223372036854775807) (hn' : n' ≤ 9223372036854775807) :
    Calls Try.prog 3 #[.slice A n c, .slice A' n' c'] w fun e w' => e = .returned (.bool true) ∧ Below w.heap.size w w' := by
  have CB := Lib.hid (zzBytes A n c M A' n' c' M' w h h' hn hn')
  have H := Lib.hid h
  have H' := Lib.hid h'
  clear h h'
  go_enter Try.func3, Try.ntmps3
  go_wp2_with fail
  refine CB.out.mono ?_
  clear CB
  rintro e w0 ⟨⟨r, rfl, hr⟩, hw0⟩
  obtain rfl := hw0.symm
  cases r with
  | false =>
    go_wp2_with fail
    go_ret
    exact ⟨rfl, Below.refl _ _⟩
  | true =>
    obtain ⟨hnb, hnb', hs, hs'⟩ := hr rfl
    have HS := Lib.hid hs
    have HS' := Lib.hid hs'
    clear hs hs' hr
    go_wp2_with fail
    refine (msgsBytes w.heap.size A n c M w H.out (Nat.le_refl _) HS.out hn).mono ?_
    rintro e w1 ⟨⟨t, rfl, ht⟩, hb1⟩
    have HB1 := Lib.hid hb1
    clear hb1
    go_wp2_with fail
    refine (msgsBytes w.heap.size A' n' c' M' w1 (H'.out.below HB1.out) HB1.out.size HS'.out hn').mono ?_
    rintro e w2 ⟨⟨t', rfl, ht'⟩, hb2⟩
    have HB2 := Lib.hid (HB1.out.trans (hb2.mono HB1.out.size))
    clear hb2 HB1
    by_cases htt : t + t' ≤ 1048576
    case neg =>
      go_wp2_with fail
      go_ret
      exact ⟨rfl, HB2.out⟩
    case pos =>
      by_cases hnn : n + n' ≤ 4096
      case neg =>
        go_wp2_with fail
        go_ret
        exact ⟨rfl, HB2.out⟩
      case pos =>
        go_wp2_with fail
        refine (cloneMsgs w.heap.size A n c M w2 (H.out.below HB2.out) HB2.out.size (fun i hi => (HS.out i hi).n) (by omega)).mono ?_
        rintro e w3 ⟨⟨A1, c1, rfl, hi1⟩, hb3⟩
        have HB3 := Lib.hid (HB2.out.trans (hb3.mono HB2.out.size))
        have HI1 := Lib.hid hi1
        clear hb3 hi1 HB2
        go_wp2_with fail
        refine (cloneMsgs w.heap.size A' n' c' M' w3 (H'.out.below HB3.out) HB3.out.size (fun i hi => (HS'.out i hi).n) (by omega)).mono ?_
        rintro e w4 ⟨⟨A2, c2, rfl, hi2⟩, hb4⟩
        have HB4 := Lib.hid (HB3.out.trans (hb4.mono HB3.out.size))
        have HJ1 : Hid (InMsgs w4 w4.heap.size A1 n M) := Lib.hid (HI1.out.keep (fun b hb => hb4.block b hb) hb4.size)
        have HJ2 := Lib.hid hi2
        clear hb4 hi2 HI1 HB3
        go_wp2_with fail
        refine (buildMsgs w4.heap.size A1 n c1 M w4 HJ1.out (Nat.le_refl _) (fun i hi => (HS.out i hi).n) (by omega)).mono ?_
        rintro e w5 ⟨⟨g1, rfl, hp1⟩, hb5⟩
        have HP1 := Lib.hid hp1
        have HB5 := Lib.hid hb5
        clear hp1 hb5
        go_wp2_with fail
        refine (buildMsgs w4.heap.size A2 n' c2 M' w5 (HJ2.out.below HB5.out) HB5.out.size (fun i hi => (HS'.out i hi).n) (by omega)).mono ?_
        rintro e w6 ⟨⟨g2, rfl, hp2⟩, hb6⟩
        have HP2 := Lib.hid hp2
        have HP1' : Hid (PubRow w6 (some ⟨g1, 0, none⟩) n (fun i => toP (M i))) := Lib.hid (HP1.out.keep (Kt.of_below (L := 0) hb6 (Nat.zero_le _)))
        have HB6 : Hid (Below w4.heap.size w4 w6) := Lib.hid (HB5.out.trans (hb6.mono HB5.out.size))
        clear hp2 hb6 HP1 HB5
        go_wp2_with fail
        refine (mergedZ w6.heap.size (some ⟨g1, 0, none⟩) n n (fun i => toP (M i)) (some ⟨g2, 0, none⟩) n' n' (fun i => toP (M' i)) w6 HP1'.out HP2.out hnn (Nat.le_refl _)).mono ?_
        rintro e w7 ⟨hk7, h7⟩
        have HB7 : Hid (Below w4.heap.size w4 w7) := Lib.hid (HB6.out.trans (hk7.below.mono HB6.out.size))
        clear hk7 HP1' HP2 HB6
        obtain ⟨N, hN⟩ : ∃ N, N = n + n' := ⟨_, rfl⟩
        rw [← hN] at h7
        have HN := Lib.hid hN
        clear hN
        rcases h7 with ⟨h0, rfl⟩ | ⟨h0, g, cap, P, P', rfl, hrow, hcnt, hmean⟩
        · have e0 : n = 0 := by have := HN.out; omega
          have e1 : n' = 0 := by have := HN.out; omega
          subst e0 e1
          go_wp2_with fail
          refine (buildMsgs w4.heap.size A1 0 c1 M w7 (HJ1.out.below HB7.out) HB7.out.size (fun i hi => (HS.out i hi).n) (by omega)).mono ?_
          rintro e w8 ⟨⟨g3, rfl, hp3⟩, hb8⟩
          have HP3 := Lib.hid hp3
          have HB8 := Lib.hid (HB7.out.trans (hb8.mono HB7.out.size))
          clear hp3 hb8
          go_wp2_with fail
          refine (convZ w4.heap.size 0 none 0 0 [] P0 (some ⟨g3, 0, none⟩) 0 0 (fun i => toP (M i)) 0 (by omega) w8 (World.ownsRow_nil _ _ _ _) (GrpAt.nil _ _) HP3.out (by omega) (by omega) HB8.out.size).mono ?_
          rintro e w9 ⟨A9, c9, rfl, ⟨xs9, P9, ho9, hx9, _, _⟩, hk9⟩
          have HO9 := Lib.hid ho9
          have HX9 := Lib.hid hx9
          have HB9 := Lib.hid (HB8.out.trans hk9.below)
          clear ho9 hx9 hk9 HP3
          go_wp2_with fail
          refine (buildMsgs w4.heap.size A2 0 c2 M' w9 (HJ2.out.below HB9.out) HB9.out.size (fun i hi => (HS'.out i hi).n) (by omega)).mono ?_
          rintro e w10 ⟨⟨g4, rfl, hp4⟩, hb10⟩
          have HP4 := Lib.hid hp4
          have HO10 := Lib.hid (own_below HO9.out hb10)
          have HX10 := Lib.hid (HX9.out.keep (Kt.of_below (L := 0) hb10 (Nat.zero_le _)))
          have HB10 := Lib.hid (HB9.out.trans (hb10.mono HB9.out.size))
          clear hp4 hb10 HO9 HX9
          go_wp2_with fail
          refine (convZ w4.heap.size 1 A9 0 c9 xs9 P9 (some ⟨g4, 0, none⟩) 0 0 (fun i => toP (M' i)) 0 (by omega) w10 HO10.out HX10.out HP4.out (by omega) (by omega) HB10.out.size).mono ?_
          rintro e w11 ⟨A11, c11, rfl, _, hk11⟩
          have HW := Lib.hid (HB4.out.trans ((HB10.out.trans hk11.below).mono HB4.out.size))
          clear hk11
          have hnil := fun w A n c => Lib.run_eql_slice_nil (P := Try.prog) w 26 38 A n c 0 0 Try.underlying26
          go_wp2_with fail
          go_ret
          exact ⟨rfl, HW.out⟩
        · have HR7 := Lib.hid hrow
          have HCN := Lib.hid hcnt
          have HME := Lib.hid hmean
          clear hrow hcnt hmean
          go_wp2_with fail
          refine (buildMsgs w4.heap.size A1 n c1 M w7 (HJ1.out.below HB7.out) HB7.out.size (fun i hi => (HS.out i hi).n) (by omega)).mono ?_
          rintro e w8 ⟨⟨g3, rfl, hp3⟩, hb8⟩
          have HP3 := Lib.hid hp3
          have HB8 := Lib.hid hb8
          clear hp3 hb8
          go_wp2_with fail
          refine (convZ w8.heap.size 0 none 0 0 [] P0 (some ⟨g3, 0, none⟩) n n (fun i => toP (M i)) n (by omega) w8 (World.ownsRow_nil _ _ _ _) (GrpAt.nil _ _) HP3.out (by omega) (by omega) (Nat.le_refl _)).mono ?_
          rintro e w9 ⟨A9, c9, rfl, ⟨xs9, P9, ho9, hx9, _, hr9⟩, hk9⟩
          have HO9 := Lib.hid ho9
          have HX9 := Lib.hid hx9
          have HR9 := Lib.hid hr9
          have HK9 := Lib.hid hk9
          clear ho9 hx9 hr9 hk9 HP3
          go_wp2_with fail
          refine (buildMsgs w4.heap.size A2 n' c2 M' w9 (HJ2.out.below (HB7.out.trans ((HB8.out.mono HB7.out.size).trans (HK9.out.below.mono (Nat.le_trans HB7.out.size HB8.out.size))))) (Nat.le_trans HB7.out.size (Nat.le_trans HB8.out.size HK9.out.size)) (fun i hi => (HS'.out i hi).n) (by omega)).mono ?_
          rintro e w10 ⟨⟨g4, rfl, hp4⟩, hb10⟩
          have HP4 := Lib.hid hp4
          have HO10 := Lib.hid (own_below HO9.out hb10)
          have HK10 := Lib.hid (Kt.of_below (L := w8.heap.size) hb10 HK9.out.size)
          have HX10 := Lib.hid (HX9.out.keep HK10.out)
          clear hp4 hb10 HO9 HX9
          go_wp2_with fail
          refine (convZ w8.heap.size 1 A9 n c9 xs9 P9 (some ⟨g4, 0, none⟩) n' n' (fun i => toP (M' i)) N HN.out w10 HO10.out HX10.out HP4.out (by omega) (by omega) (Nat.le_trans HK9.out.size HK10.out.size)).mono ?_
          rintro e w11 ⟨A11, c11, rfl, ⟨xs, Q, ho, hx, ha, hq⟩, hk11⟩
          obtain ⟨g', rfl⟩ := own_addr ho h0
          have K8 : Kt w7.heap.size w7 w8 := Kt.of_below HB8.out (Nat.le_refl _)
          have K11 : Kt w8.heap.size w8 w11 := HK9.out.trans (HK10.out.trans hk11)
          have HR : Hid (Row w11 g N P') := Lib.hid (HR7.out.kt HR7.out.row.lt (K8.trans (K11.weak HB8.out.size)))
          have HQ : Hid (Row w11 g' N Q) := Lib.hid ⟨hx.row ho, fun i hi => (hx.2 i hi).2⟩
          have HRR : Hid (∀ i, i < n + n' → (Q i).2 = RR (fun i => toP (M i)) (fun i => toP (M' i)) n i) := Lib.hid (RR_of HR9.out ha hq)
          have HCC : Hid (∀ f : MsgR → Bool, cnt (fun x => f x.2) P' N = cnt (fun x => f x.2) Q N) := Lib.hid fun f => (HCN.out _).trans (cnt_snd f fun i hi => (HME.out i hi).trans (HRR.out i (by have := HN.out; omega)).symm)
          have HW : Hid (Below w.heap.size w w11) := Lib.hid (HB4.out.trans ((HB7.out.trans ((HB8.out.mono HB7.out.size).trans (K11.below.mono (Nat.le_trans HB7.out.size HB8.out.size)))).mono HB4.out.size))
          clear ho hx ha hq hk11 K8 K11 HR7 HCN HME HRR HR9 HK9 HK10 HO10 HX10 HP4 HJ1 HJ2 HB7 HB8 HB4 H H' HS HS' hn hn' hnb hnb' ht ht' htt
          have hN4 : N ≤ 4096 := by have := HN.out; omega
          have hN0 : ((N : Int) == 0) = false := beq_eq_false_iff_ne.2 (by omega)
          clear HN hnn
          go_wp2_with fail
          go_loopg [7] N (fun q i wr => ∃ k : Nat, k ≤ N ∧ q = N - k ∧ i = .int .i64 k ∧ Hid (Below w11.heap.size w11 wr))
          case atStart => exact ⟨0, Nat.zero_le _, rfl, rfl, Lib.hid (Below.refl _ _)⟩
          case round =>
            obtain ⟨k, hk, rfl, rfl, HB⟩ := hrel
            by_cases hkN : k < N
            case neg =>
              have hkk : N = k := by omega
              subst hkk
              go_wp2_with fail
              go_ret
              exact ⟨rfl, HW.out.trans (HB.out.mono HW.out.size)⟩
            case pos =>
              obtain ⟨m, hm⟩ : ∃ m, m = (P' k).2 := ⟨_, rfl⟩
              have HM := Lib.hid hm
              clear hm
              go_wp2_with fail
              generalize wr = wO at *
              go_loopg [8, 9, 10] N (fun q a b j wy => ∃ x ca cb : Nat, x ≤ N ∧ ca ≤ x ∧ cb ≤ x ∧ q = N - x ∧ a = .int .i64 ca ∧ b = .int .i64 cb ∧ j = .int .i64 x ∧ Hid (ca = cnt (fun y => eqM m y.2) P' x) ∧ Hid (cb = cnt (fun y => eqM m y.2) Q x) ∧ Hid (Below w11.heap.size w11 wy))
              case atStart => exact ⟨0, 0, 0, Nat.zero_le _, Nat.le_refl _, Nat.le_refl _, rfl, rfl, rfl, rfl, Lib.hid rfl, Lib.hid rfl, HB⟩
              case round =>
                obtain ⟨x, ca, cb, hx, hca, hcb, rfl, rfl, rfl, rfl, HA, HC, HY⟩ := hrel
                by_cases hxN : x < N
                case neg =>
                  have hxx : N = x := by omega
                  subst hxx
                  have e : cb = ca := by rw [HA.out, HC.out]; exact (HCC.out _).symm
                  subst e
                  go_wp2_with fail
                  go_roundg (N - (k + 1))
                  case rel => exact ⟨k + 1, by omega, rfl, by go_num, HY⟩
                  case measure => omega
                case pos =>
                  have hrow := HR.out.below HY.out
                  have hrow' := HQ.out.below HY.out
                  have hgl := hrow.row.lt
                  have hgl' := hrow'.row.lt
                  obtain ⟨a0, a1, a2, a3, a4, a5, a6, a7⟩ := row_cells hrow hkN
                  obtain ⟨b0, b1, b2, b3, b4, b5, b6, b7⟩ := row_cells hrow hxN
                  obtain ⟨d0, d1, d2, d3, d4, d5, d6, d7⟩ := row_cells hrow' hxN
                  have i1 := hrow.is k hkN
                  have I2 := Lib.hid (hrow.is x hxN)
                  have I3 := Lib.hid (hrow'.is x hxN)
                  rw [← HM.out] at i1
                  have I1 := Lib.hid i1
                  obtain ⟨p1, e1⟩ := locv_ptr (P' k).1.l
                  obtain ⟨p2, e2⟩ := locv_ptr (P' x).1.l
                  obtain ⟨p3, e3⟩ := locv_ptr (Q x).1.l
                  rw [e1] at a3
                  rw [e2] at b3
                  rw [e3] at d3
                  have E1 := Lib.hid e1
                  have E2 := Lib.hid e2
                  have E3 := Lib.hid e3
                  obtain ⟨c1, hE⟩ : ∃ b, eqM m (P' x).2 = b := ⟨_, rfl⟩
                  obtain ⟨c2, hF⟩ : ∃ b, eqM m (Q x).2 = b := ⟨_, rfl⟩
                  have HE := Lib.hid hE
                  have HF := Lib.hid hF
                  have HA1 := Lib.hid (cnt_ind (fun y => eqM m y.2) P' x hE HA.out)
                  have HC1 := Lib.hid (cnt_ind (fun y => eqM m y.2) Q x hF HC.out)
                  clear hrow hrow' i1 e1 e2 e3 hE hF HA HC
                  generalize (P' k).1 = q1 at *
                  generalize (P' x).1 = q2 at *
                  generalize (Q x).1 = q3 at *
                  generalize (P' x).2 = m2 at *
                  generalize (Q x).2 = m3 at *
                  have hk0 : (0 : Int) ≤ (k : Int) := by omega
                  have hki : (k : Int) < (N : Int) := by omega
                  have hx0 : (0 : Int) ≤ (x : Int) := by omega
                  have hxi : (x : Int) < (N : Int) := by omega
                  go_wp2_with fail
                  go_region_held3 (fun w' => w'.cell? ⟨g, k * 8, none⟩ = some (.slice q1.A q1.n q1.c) ∧ w'.cell? ⟨g, k * 8 + 1, none⟩ = some (.string q1.p) ∧ w'.cell? ⟨g, k * 8 + 2, none⟩ = some (.nilIface) ∧ w'.cell? ⟨g, k * 8 + 3, none⟩ = some (.pointer p1) ∧ w'.cell? ⟨g, k * 8 + 4, none⟩ = some (.string q1.t) ∧ w'.cell? ⟨g, k * 8 + 5, none⟩ = some (.bool false) ∧ w'.cell? ⟨g, k * 8 + 6, none⟩ = some (.int .u8 q1.kind) ∧ w'.cell? ⟨g, k * 8 + 7, none⟩ = some (.int .u8 q1.id) ∧ w'.cell? ⟨g, x * 8, none⟩ = some (.slice q2.A q2.n q2.c) ∧ w'.cell? ⟨g, x * 8 + 1, none⟩ = some (.string q2.p) ∧ w'.cell? ⟨g, x * 8 + 2, none⟩ = some (.nilIface) ∧ w'.cell? ⟨g, x * 8 + 3, none⟩ = some (.pointer p2) ∧ w'.cell? ⟨g, x * 8 + 4, none⟩ = some (.string q2.t) ∧ w'.cell? ⟨g, x * 8 + 5, none⟩ = some (.bool false) ∧ w'.cell? ⟨g, x * 8 + 6, none⟩ = some (.int .u8 q2.kind) ∧ w'.cell? ⟨g, x * 8 + 7, none⟩ = some (.int .u8 q2.id))
                    (first | with_reducible assumption | exact ⟨by with_reducible assumption, by with_reducible assumption, by with_reducible assumption, by with_reducible assumption, by with_reducible assumption, by with_reducible assumption, by with_reducible assumption, by with_reducible assumption, by with_reducible assumption, by with_reducible assumption, by with_reducible assumption, by with_reducible assumption, by with_reducible assumption, by with_reducible assumption, by with_reducible assumption, by with_reducible assumption⟩ | (go_simp; done))
                    (first
                      | (go_at_call 10; refine (msgEqB q1 q2 (Zo wr) (Zo wr) m m2 c1 p1 p2 wr.drew (I1.out.keep (fun _ h _ => h) (fun _ _ _ => rfl) (Nat.le_refl _)) (I2.out.keep (fun _ h _ => h) (fun _ _ _ => rfl) (Nat.le_refl _)) HE.out E1.out E2.out).mono ?_; rintro e w12 ⟨rfl, hbw12⟩; have HBw12 : Hid (Below wr.heap.size wr w12) := Lib.hid (below_of_drew hbw12); have fa0 := (HBw12.out.cell (p := ⟨g, k * 8, none⟩) hgl).trans a0; have fa1 := (HBw12.out.cell (p := ⟨g, k * 8 + 1, none⟩) hgl).trans a1; have fa2 := (HBw12.out.cell (p := ⟨g, k * 8 + 2, none⟩) hgl).trans a2; have fa3 := (HBw12.out.cell (p := ⟨g, k * 8 + 3, none⟩) hgl).trans a3; have fa4 := (HBw12.out.cell (p := ⟨g, k * 8 + 4, none⟩) hgl).trans a4; have fa5 := (HBw12.out.cell (p := ⟨g, k * 8 + 5, none⟩) hgl).trans a5; have fa6 := (HBw12.out.cell (p := ⟨g, k * 8 + 6, none⟩) hgl).trans a6; have fa7 := (HBw12.out.cell (p := ⟨g, k * 8 + 7, none⟩) hgl).trans a7; have fb0 := (HBw12.out.cell (p := ⟨g, x * 8, none⟩) hgl).trans b0; have fb1 := (HBw12.out.cell (p := ⟨g, x * 8 + 1, none⟩) hgl).trans b1; have fb2 := (HBw12.out.cell (p := ⟨g, x * 8 + 2, none⟩) hgl).trans b2; have fb3 := (HBw12.out.cell (p := ⟨g, x * 8 + 3, none⟩) hgl).trans b3; have fb4 := (HBw12.out.cell (p := ⟨g, x * 8 + 4, none⟩) hgl).trans b4; have fb5 := (HBw12.out.cell (p := ⟨g, x * 8 + 5, none⟩) hgl).trans b5; have fb6 := (HBw12.out.cell (p := ⟨g, x * 8 + 6, none⟩) hgl).trans b6; have fb7 := (HBw12.out.cell (p := ⟨g, x * 8 + 7, none⟩) hgl).trans b7; have fd0 := (HBw12.out.cell (p := ⟨g', x * 8, none⟩) hgl').trans d0; have fd1 := (HBw12.out.cell (p := ⟨g', x * 8 + 1, none⟩) hgl').trans d1; have fd2 := (HBw12.out.cell (p := ⟨g', x * 8 + 2, none⟩) hgl').trans d2; have fd3 := (HBw12.out.cell (p := ⟨g', x * 8 + 3, none⟩) hgl').trans d3; have fd4 := (HBw12.out.cell (p := ⟨g', x * 8 + 4, none⟩) hgl').trans d4; have fd5 := (HBw12.out.cell (p := ⟨g', x * 8 + 5, none⟩) hgl').trans d5; have fd6 := (HBw12.out.cell (p := ⟨g', x * 8 + 6, none⟩) hgl').trans d6; have fd7 := (HBw12.out.cell (p := ⟨g', x * 8 + 7, none⟩) hgl').trans d7; clear hbw12))
                  have hgm : g < w12.heap.size := Nat.lt_of_lt_of_le hgl HBw12.out.size
                  have hgm' : g' < w12.heap.size := Nat.lt_of_lt_of_le hgl' HBw12.out.size
                  have J1 : Hid (IsG w12 (Zo wr) q1 m) := Lib.hid (I1.out.keep (fun _ h _ => h) (fun b _ hb => HBw12.out.block b hb) HBw12.out.size)
                  have J3 : Hid (IsG w12 (Zo wr) q3 m3) := Lib.hid (I3.out.keep (fun _ h _ => h) (fun b _ hb => HBw12.out.block b hb) HBw12.out.size)
                  clear a0 b0 d0 fb0 a1 b1 d1 fb1 a2 b2 d2 fb2 a3 b3 d3 fb3 a4 b4 d4 fb4 a5 b5 d5 fb5 a6 b6 d6 fb6 a7 b7 d7 fb7 I1 I2 I3 HE
                  have hgl := hgm
                  have hgl' := hgm'
                  cases c1
                  all_goals go_wp2_with fail
                  all_goals go_region_held3 (fun w' => w'.cell? ⟨g, k * 8, none⟩ = some (.slice q1.A q1.n q1.c) ∧ w'.cell? ⟨g, k * 8 + 1, none⟩ = some (.string q1.p) ∧ w'.cell? ⟨g, k * 8 + 2, none⟩ = some (.nilIface) ∧ w'.cell? ⟨g, k * 8 + 3, none⟩ = some (.pointer p1) ∧ w'.cell? ⟨g, k * 8 + 4, none⟩ = some (.string q1.t) ∧ w'.cell? ⟨g, k * 8 + 5, none⟩ = some (.bool false) ∧ w'.cell? ⟨g, k * 8 + 6, none⟩ = some (.int .u8 q1.kind) ∧ w'.cell? ⟨g, k * 8 + 7, none⟩ = some (.int .u8 q1.id) ∧ w'.cell? ⟨g', x * 8, none⟩ = some (.slice q3.A q3.n q3.c) ∧ w'.cell? ⟨g', x * 8 + 1, none⟩ = some (.string q3.p) ∧ w'.cell? ⟨g', x * 8 + 2, none⟩ = some (.nilIface) ∧ w'.cell? ⟨g', x * 8 + 3, none⟩ = some (.pointer p3) ∧ w'.cell? ⟨g', x * 8 + 4, none⟩ = some (.string q3.t) ∧ w'.cell? ⟨g', x * 8 + 5, none⟩ = some (.bool false) ∧ w'.cell? ⟨g', x * 8 + 6, none⟩ = some (.int .u8 q3.kind) ∧ w'.cell? ⟨g', x * 8 + 7, none⟩ = some (.int .u8 q3.id))
                    (first | with_reducible assumption | exact ⟨by with_reducible assumption, by with_reducible assumption, by with_reducible assumption, by with_reducible assumption, by with_reducible assumption, by with_reducible assumption, by with_reducible assumption, by with_reducible assumption, by with_reducible assumption, by with_reducible assumption, by with_reducible assumption, by with_reducible assumption, by with_reducible assumption, by with_reducible assumption, by with_reducible assumption, by with_reducible assumption⟩ | (go_simp; done))
                    (first
                      | (go_at_call 10; refine (msgEqB q1 q3 (Zo wr) (Zo wr) m m3 c2 p1 p3 w12.drew (J1.out.keep (fun _ h _ => h) (fun _ _ _ => rfl) (Nat.le_refl _)) (J3.out.keep (fun _ h _ => h) (fun _ _ _ => rfl) (Nat.le_refl _)) HF.out E1.out E3.out).mono ?_; rintro e w13 ⟨rfl, hbw13⟩; have HBw13 : Hid (Below w12.heap.size w12 w13) := Lib.hid (below_of_drew hbw13); have ha0 := (HBw13.out.cell (p := ⟨g, k * 8, none⟩) hgl).trans fa0; have ha1 := (HBw13.out.cell (p := ⟨g, k * 8 + 1, none⟩) hgl).trans fa1; have ha2 := (HBw13.out.cell (p := ⟨g, k * 8 + 2, none⟩) hgl).trans fa2; have ha3 := (HBw13.out.cell (p := ⟨g, k * 8 + 3, none⟩) hgl).trans fa3; have ha4 := (HBw13.out.cell (p := ⟨g, k * 8 + 4, none⟩) hgl).trans fa4; have ha5 := (HBw13.out.cell (p := ⟨g, k * 8 + 5, none⟩) hgl).trans fa5; have ha6 := (HBw13.out.cell (p := ⟨g, k * 8 + 6, none⟩) hgl).trans fa6; have ha7 := (HBw13.out.cell (p := ⟨g, k * 8 + 7, none⟩) hgl).trans fa7; have hd0 := (HBw13.out.cell (p := ⟨g', x * 8, none⟩) hgl').trans fd0; have hd1 := (HBw13.out.cell (p := ⟨g', x * 8 + 1, none⟩) hgl').trans fd1; have hd2 := (HBw13.out.cell (p := ⟨g', x * 8 + 2, none⟩) hgl').trans fd2; have hd3 := (HBw13.out.cell (p := ⟨g', x * 8 + 3, none⟩) hgl').trans fd3; have hd4 := (HBw13.out.cell (p := ⟨g', x * 8 + 4, none⟩) hgl').trans fd4; have hd5 := (HBw13.out.cell (p := ⟨g', x * 8 + 5, none⟩) hgl').trans fd5; have hd6 := (HBw13.out.cell (p := ⟨g', x * 8 + 6, none⟩) hgl').trans fd6; have hd7 := (HBw13.out.cell (p := ⟨g', x * 8 + 7, none⟩) hgl').trans fd7; clear hbw13))
                  all_goals have HZ : Hid (Below w11.heap.size w11 w13) := Lib.hid (HY.out.trans ((HBw12.out.trans (HBw13.out.mono HBw12.out.size)).mono HY.out.size))
                  all_goals cases c2
                  all_goals go_wp2_with fail
                  all_goals go_roundg (N - (x + 1))
                  all_goals first
                    | omega
                    | exact ⟨x + 1, ca + 1, cb + 1, by omega, by omega, by omega, rfl, by go_num, by go_num, by go_num, Lib.hid HA1.out, Lib.hid HC1.out, HZ⟩
                    | exact ⟨x + 1, ca + 1, cb, by omega, by omega, by omega, rfl, by go_num, by go_num, by go_num, Lib.hid HA1.out, Lib.hid HC1.out, HZ⟩
                    | exact ⟨x + 1, ca, cb + 1, by omega, by omega, by omega, rfl, by go_num, by go_num, by go_num, Lib.hid HA1.out, Lib.hid HC1.out, HZ⟩
                    | exact ⟨x + 1, ca, cb, by omega, by omega, by omega, rfl, by go_num, by go_num, by go_num, Lib.hid HA1.out, Lib.hid HC1.out, HZ⟩
end Go.Proofs.Ytippmlajjkdblaa
