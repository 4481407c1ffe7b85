/- The walk of the law FnBitSetEqualsSpec: the last part. -/
import Derived.Test.YtdehakheecckeaaLawB
import Derived.Deep.QuietTactic
import Derived.BigQuiet
namespace Go.Proofs.Ytdehakheecckeaa
open Go.RowKit
set_option linter.unusedVariables false
set_option linter.unusedSimpArgs false

theorem least_differs {M1 M2 : Nat → Bool} {L : Nat} (h : ¬ ∀ j, j < L → M1 j = M2 j) : ∃ t, t < L ∧ M1 t ≠ M2 t ∧ ∀ j, j < t → M1 j = M2 j := by
  induction L with
  | zero => exact absurd (fun j hj => absurd hj (by omega)) h
  | succ L ih =>
    by_cases h' : ∀ j, j < L → M1 j = M2 j
    · refine ⟨L, by omega, fun e => h fun j hj => ?_, h'⟩
      by_cases e' : j = L
      · subst e'; exact e
      · exact h' j (by omega)
    · obtain ⟨t, a, b, c⟩ := ih h'
      exact ⟨t, by omega, b, c⟩

theorem eqB_comm (m m' : Nat) (E E' : Nat → Nat) : eqB m E m' E' = eqB m' E' m E := by
  unfold eqB
  rw [decide_eq_decide]
  constructor
  · rintro ⟨rfl, h⟩; exact ⟨rfl, fun i hi => (h i hi).symm⟩
  · rintro ⟨rfl, h⟩; exact ⟨rfl, fun i hi => (h i hi).symm⟩
theorem Sq.drewN {B ba bb ga gb qa qb m m' : Nat} {A : Option Addr} {n : Nat} {f : Nat → Int} {A' : Option Addr} {n' : Nat} {f' : Nat → Int} {E1 E2 : Nat → Nat} {M1 M2 : Nat → Bool} {w wr : World}
    (h : Sq B ba bb ga gb qa qb m m' A n f A' n' f' E1 E2 M1 M2 w wr) (q : Nat) : Sq B ba bb ga gb qa qb m m' A n f A' n' f' E1 E2 M1 M2 w (wr.drewN q) where
  ca := h.ca
  cb := h.cb
  ra := h.ra
  rb := h.rb
  ma := h.ma
  mb := h.mb
  row := h.row
  row' := h.row'
  bel := ⟨h.bel.os, h.bel.tape, h.bel.output, h.bel.size, h.bel.block⟩
  wB := h.wB
  Bs := h.Bs
  ne := h.ne
  neq := h.neq
  lt := h.lt
set_option maxHeartbeats 4000000 in
set_option maxRecDepth 100000 in
theorem fnBitSetEqualsSpec.main (N N' : Nat) (a1 a3 : Option Addr) (n1 c1 n3 c3 : Nat) (f1 f3 : Nat → Int) (w : World) (w1 : InInts .u64 w a1 n1 c1 f1) (w3 : InInts .u64 w a3 n3 c3 f3)
    (hN : N ≤ 65536) (hN' : N' ≤ 65536) (hsum : n1 + n3 ≤ 131072) :
    Calls Try.prog 3 #[.int .u64 N, .slice a1 n1 c1, .int .u64 N', .slice a3 n3 c3] w fun e w' => e = .returned (.bool true) ∧ Below w.heap.size w w' := by
  have hf : ∀ i, 0 ≤ f1 i := fun i => (bounds_u64 (w1.wf i)).1
  have HF := Lib.hid hf
  have hf' : ∀ i, 0 ≤ f3 i := fun i => (bounds_u64 (w3.wf i)).1
  have HF' := Lib.hid hf'
  have W1 := Lib.hid w1
  have W3 := Lib.hid w3
  clear w1 w3 hf hf'
  have hmk := run_make_at (P := Try.prog) 30 4 (.bool false) 1 Try.underlying30 Try.info4 rfl .u64 .u64 ((N + 7) / 8 * 8) (((N : Int) + 7) / 8 * 8) (by omega) (by omega) (by omega)
  have hmk' := run_make_at (P := Try.prog) 30 4 (.bool false) 1 Try.underlying30 Try.info4 rfl .u64 .u64 ((N' + 7) / 8 * 8) (((N' : Int) + 7) / 8 * 8) (by omega) (by omega) (by omega)
  go_enter Try.func3, Try.ntmps3
  go_wp2_with (go_at_call 5; refine (zzB5_true _ _ _ _ _ _ _ _ (by omega) _).mono ?_; rintro e w' ⟨rfl, rfl⟩)
  refine (clone _ _ _ f1 _ W1.out (by omega)).mono ?_
  rintro e w0 ⟨A, c, rfl, hrow0, hb0⟩
  have hk3 := W3.out.row.below hb0
  have W3' : Hid (InInts .u64 w0 a3 n3 c3 f3) := Lib.hid ⟨hk3.more hb0.size, W3.out.wf, W3.out.le, W3.out.max⟩
  have HR0 := Lib.hid hrow0
  have HB0 := Lib.hid hb0
  clear hrow0 hb0 hk3
  go_wp2_with fail
  refine (clone _ _ _ f3 _ W3'.out (by omega)).mono ?_
  rintro e w1 ⟨A', c', rfl, hrow, hb1⟩
  have HR := Lib.hid hrow
  have HB := Lib.hid hb1
  clear hrow hb1
  go_wp2_with fail
  refine (newBitSet N (by omega) _).mono ?_
  rintro e w2 ⟨ga, rfl, hga, hra, hb2⟩
  have HA := Lib.hid hra
  have HB2 := Lib.hid hb2
  clear hra hb2
  go_wp2_with fail
  refine (newBitSet N' (by omega) _).mono ?_
  rintro e w3 ⟨gb, rfl, hgb, hrb, hb3⟩
  have ST := Lib.hid (Sq.start HR0.out HB0.out HR.out HB.out hga HA.out HB2.out hgb hrb hb3)
  clear hgb hrb hb3 HR HB HA HB2 hga HR0 HB0 W1 W3 W3'
  go_wp2_with fail
  clear hmk hmk'
  go_loopg [71] n1 (fun g i wr => ∃ (k : Nat) (E : Nat → Nat) (M : Nat → Bool), k ≤ n1 ∧ g = n1 - k ∧ i = .int .i64 k ∧ Bits (Upto f1 N k) E ∧ (∀ j, M j = true ↔ Upto f1 N k j) ∧ Sq w1.heap.size w2.heap.size w3.heap.size ga gb (w3.heap.size + 1) (w3.heap.size + 2) ((N + 7) / 8) ((N' + 7) / 8) A n1 f1 A' n3 f3 E (fun _ => 0) M (fun _ => false) w wr)
  case atStart => exact ⟨0, _, _, Nat.zero_le _, rfl, rfl, Bits.zero.congr (upto_zero f1 N), fun j => by simp [← upto_zero], ST.out⟩
  case round =>
    obtain ⟨k, E, M, hk, rfl, rfl, hE, hM, hS⟩ := hrel
    clear ST
    by_cases hlt : k < n1
    · obtain ⟨b, o, rfl, hb, hc⟩ := hS.row.at_ hlt
      have hca := hS.ca
      have HS := Lib.hid hS
      have HE := Lib.hid hE
      have HM := Lib.hid hM
      clear hS hE hM
      have hf := HF.out k
      by_cases hx : f1 k < (N : Int)
      · obtain ⟨x, hxx⟩ : ∃ x : Nat, f1 k = (x : Int) := ⟨(f1 k).toNat, by omega⟩
        rw [hxx] at hc
        have HX := Lib.hid hxx
        have hxN : x < N := by omega
        clear hf hx hxx
        go_wp2_with fail
        refine (setBit ga _ x E HE.out.lt (by omega) (by omega) _ HS.out.ra).mono ?_
        rintro e wx ⟨rfl, hrx, hgx⟩
        have HS' := Lib.hid (HS.out.setA hgx hrx)
        clear hgx hrx HS hca hc
        have hx8 : x < (N + 7) / 8 * 8 := by omega
        have hcx := HS'.out.ma.cell hx8
        have hfx := HS'.out.ma.frozen x
        go_wp2_with fail
        go_roundg (n1 - (k + 1))
        case rel => exact ⟨k + 1, _, _, by omega, rfl, by go_num, (HE.out.set x).congr (upto_succ HX.out hxN), mod_step HM.out HX.out hxN, HS'.out.modA x⟩
        case measure => omega
      · go_wp2_with fail
        go_roundg (n1 - (k + 1))
        case rel => exact ⟨k + 1, _, _, by omega, rfl, by go_num, HE.out.congr (upto_skip (by omega)), mod_skip HM.out (by omega), HS.out⟩
        case measure => omega
    · have hkn : k = n1 := by omega
      have HKN := Lib.hid hkn
      have HS := Lib.hid hS
      have HE1 : Hid (Bits (Upto f1 N n1) E) := Lib.hid (by rw [← hkn]; exact hE)
      have HM1 : Hid (∀ j, M j = true ↔ Upto f1 N n1 j) := Lib.hid (by rw [← hkn]; exact hM)
      clear hS hE hM hkn
      obtain ⟨E1, rfl⟩ : ∃ X, X = E := ⟨_, rfl⟩
      obtain ⟨M1, rfl⟩ : ∃ X, X = M := ⟨_, rfl⟩
      go_wp2_with fail
      go_loopg [87] n3 (fun g i wr => ∃ (k : Nat) (E : Nat → Nat) (M : Nat → Bool), k ≤ n3 ∧ g = n3 - k ∧ i = .int .i64 k ∧ Bits (Upto f3 N' k) E ∧ (∀ j, M j = true ↔ Upto f3 N' k j) ∧ Sq w1.heap.size w2.heap.size w3.heap.size ga gb (w3.heap.size + 1) (w3.heap.size + 2) ((N + 7) / 8) ((N' + 7) / 8) A n1 f1 A' n3 f3 E1 E M1 M w wr)
      case atStart => exact ⟨0, _, _, Nat.zero_le _, rfl, rfl, Bits.zero.congr (upto_zero f3 N'), fun j => by simp [← upto_zero], HS.out⟩
      case round =>
        obtain ⟨k, E, M, hk, rfl, rfl, hE, hM, hS⟩ := hrel
        clear HS
        by_cases hlt : k < n3
        · obtain ⟨b, o, rfl, hb, hc⟩ := hS.row'.at_ hlt
          have hca := hS.cb
          have HS := Lib.hid hS
          have HE := Lib.hid hE
          have HM := Lib.hid hM
          clear hS hE hM
          have hf := HF'.out k
          by_cases hx : f3 k < (N' : Int)
          · obtain ⟨x, hxx⟩ : ∃ x : Nat, f3 k = (x : Int) := ⟨(f3 k).toNat, by omega⟩
            rw [hxx] at hc
            have HX := Lib.hid hxx
            have hxN : x < N' := by omega
            clear hf hx hxx
            go_wp2_with fail
            refine (setBit gb _ x E HE.out.lt (by omega) (by omega) _ HS.out.rb).mono ?_
            rintro e wx ⟨rfl, hrx, hgx⟩
            have HS' := Lib.hid (HS.out.setB hgx hrx)
            clear hgx hrx HS hca hc
            have hx8 : x < (N' + 7) / 8 * 8 := by omega
            have hcx := HS'.out.mb.cell hx8
            have hfx := HS'.out.mb.frozen x
            go_wp2_with fail
            go_roundg (n3 - (k + 1))
            case rel => exact ⟨k + 1, _, _, by omega, rfl, by go_num, (HE.out.set x).congr (upto_succ HX.out hxN), mod_step HM.out HX.out hxN, HS'.out.modB x⟩
            case measure => omega
          · go_wp2_with fail
            go_roundg (n3 - (k + 1))
            case rel => exact ⟨k + 1, _, _, by omega, rfl, by go_num, HE.out.congr (upto_skip (by omega)), mod_skip HM.out (by omega), HS.out⟩
            case measure => omega
        · have hkn : k = n3 := by omega
          have HKN := Lib.hid hkn
          have HS := Lib.hid hS
          have HE2 : Hid (Bits (Upto f3 N' n3) E) := Lib.hid (by rw [← hkn]; exact hE)
          have HM2 : Hid (∀ j, M j = true ↔ Upto f3 N' n3 j) := Lib.hid (by rw [← hkn]; exact hM)
          clear hS hE hM hkn
          obtain ⟨E2, rfl⟩ : ∃ X, X = E := ⟨_, rfl⟩
          obtain ⟨M2, rfl⟩ : ∃ X, X = M := ⟨_, rfl⟩
          by_cases hmm : (N + 7) / 8 = (N' + 7) / 8
          · have hmI : (((N : Int) + 7) / 8 * 8 == ((N' : Int) + 7) / 8 * 8) = true := by simp only [beq_iff_eq]; omega
            have HMM := Lib.hid hmm
            have hmle : (N + 7) / 8 ≤ (N' + 7) / 8 := by omega
            have hmge : (N' + 7) / 8 ≤ (N + 7) / 8 := by omega
            clear hmm
            by_cases hall : ∀ j, j < (N + 7) / 8 * 8 → M1 j = M2 j
            · have HV : Hid (eqB ((N + 7) / 8) E1 ((N' + 7) / 8) E2 = true) := Lib.hid (by rw [eqB_mod HE1.out HE2.out HM1.out HM2.out]; exact decide_eq_true ⟨HMM.out, hall⟩)
              have HV2 : Hid (eqB ((N' + 7) / 8) E2 ((N + 7) / 8) E1 = true) := Lib.hid (by rw [eqB_comm]; exact HV.out)
              have HALL := Lib.hid hall
              clear hall
              go_wp2_with fail
              obtain ⟨wo, rfl⟩ : ∃ wo : World, wo = wr := ⟨_, rfl⟩
              go_loopg [19, 20] ((N + 7) / 8 * 8) (fun g s19 i wr => ∃ (k : Nat), k ≤ (N + 7) / 8 * 8 ∧ g = (N + 7) / 8 * 8 - k ∧ s19 = .bool true ∧ i = .int .u64 k ∧ Sq w1.heap.size w2.heap.size w3.heap.size ga gb (w3.heap.size + 1) (w3.heap.size + 2) ((N + 7) / 8) ((N' + 7) / 8) A n1 f1 A' n3 f3 E1 E2 M1 M2 w wr)
              case atStart => exact ⟨0, Nat.zero_le _, rfl, rfl, rfl, HS.out⟩
              case round =>
                obtain ⟨k, hk, rfl, rfl, rfl, hS⟩ := hrel
                clear HS
                by_cases hlt : k < (N + 7) / 8 * 8
                · have hlt' : k < (N + 7) / 8 * 8 := by omega
                  have hc1 := hS.ma.cell hlt'
                  have hc2 := hS.mb.cell (show k < (N' + 7) / 8 * 8 by omega)
                  have hi1 : (k : Int) < ((N : Int) + 7) / 8 * 8 := by omega
                  have hi2 : (k : Int) < ((N' : Int) + 7) / 8 * 8 := by omega
                  have hk0 : k < (N' + 7) / 8 * 8 := by omega
                  rw [← HALL.out k (by omega)] at hc2
                  have HS := Lib.hid hS
                  clear hS
                  generalize M1 k = v1 at hc1 hc2
                  cases v1
                  all_goals
                    go_wp2_with fail
                    go_quiet (fail)
                    go_wp2_with fail
                    go_roundg ((N + 7) / 8 * 8 - (k + 1))
                    case rel => exact ⟨k + 1, by omega, rfl, rfl, by go_num, HS.out.drewN _⟩
                    case measure => omega
                · have HS := Lib.hid hS
                  clear hS
                  have hge : ¬ (k : Int) < ((N : Int) + 7) / 8 * 8 := by omega
                  have hca := HS.out.ca
                  have hcb := HS.out.cb
                  go_wp2_with fail
                  refine (equals ga gb _ _ E1 E2 true HV.out HE1.out.lt HE2.out.lt _ (by exact HS.out.ra) (by exact HS.out.rb)).mono ?_
                  rintro e wx ⟨rfl, hbx⟩
                  have HBX := Lib.hid hbx
                  have ra' := Lib.hid (HS.out.ra.of_block (hbx.block _ HS.out.ra.lt))
                  have rb' := Lib.hid (HS.out.rb.of_block (hbx.block _ HS.out.rb.lt))
                  have hca' := (hbx.cell (p := ⟨w2.heap.size, 0, none⟩) HS.out.lt.1).trans hca
                  have hcb' := (hbx.cell (p := ⟨w3.heap.size, 0, none⟩) HS.out.lt.2).trans hcb
                  clear hbx hca hcb
                  go_wp2_with fail
                  refine (equals gb ga _ _ E2 E1 true HV2.out HE2.out.lt HE1.out.lt _ rb'.out ra'.out).mono ?_
                  rintro e wy ⟨rfl, hby⟩
                  have HBY := Lib.hid hby
                  clear hby
                  go_wp2_with fail
                  go_ret
                  exact ⟨rfl, (HS.out.bel.trans (HBX.out.mono HS.out.bel.size)).trans (HBY.out.mono (Nat.le_trans HS.out.bel.size HBX.out.size))⟩
            · obtain ⟨t, ht, hd, hall'⟩ := least_differs hall
              have HV : Hid (eqB ((N + 7) / 8) E1 ((N' + 7) / 8) E2 = false) := Lib.hid (by rw [eqB_mod HE1.out HE2.out HM1.out HM2.out]; exact decide_eq_false fun h => hall h.2)
              have HV2 : Hid (eqB ((N' + 7) / 8) E2 ((N + 7) / 8) E1 = false) := Lib.hid (by rw [eqB_comm]; exact HV.out)
              have HALL := Lib.hid hall'
              have HD := Lib.hid hd
              clear hall hall' hd
              go_wp2_with fail
              obtain ⟨wo, rfl⟩ : ∃ wo : World, wo = wr := ⟨_, rfl⟩
              go_loopg [19, 20] t (fun g s19 i wr => ∃ (k : Nat), k ≤ t ∧ g = t - k ∧ s19 = .bool true ∧ i = .int .u64 k ∧ Sq w1.heap.size w2.heap.size w3.heap.size ga gb (w3.heap.size + 1) (w3.heap.size + 2) ((N + 7) / 8) ((N' + 7) / 8) A n1 f1 A' n3 f3 E1 E2 M1 M2 w wr)
              case atStart => exact ⟨0, Nat.zero_le _, rfl, rfl, rfl, HS.out⟩
              case round =>
                obtain ⟨k, hk, rfl, rfl, rfl, hS⟩ := hrel
                clear HS
                by_cases hlt : k < t
                · have hlt' : k < (N + 7) / 8 * 8 := by omega
                  have hc1 := hS.ma.cell hlt'
                  have hc2 := hS.mb.cell (show k < (N' + 7) / 8 * 8 by omega)
                  have hi1 : (k : Int) < ((N : Int) + 7) / 8 * 8 := by omega
                  have hi2 : (k : Int) < ((N' : Int) + 7) / 8 * 8 := by omega
                  have hk0 : k < (N' + 7) / 8 * 8 := by omega
                  rw [← HALL.out k (by omega)] at hc2
                  have HS := Lib.hid hS
                  clear hS
                  generalize M1 k = v1 at hc1 hc2
                  cases v1
                  all_goals
                    go_wp2_with fail
                    go_quiet (fail)
                    go_wp2_with fail
                    go_roundg (t - (k + 1))
                    case rel => exact ⟨k + 1, by omega, rfl, rfl, by go_num, HS.out.drewN _⟩
                    case measure => omega
                · have hkt : k = t := by omega
                  subst hkt
                  have hc1 := hS.ma.cell ht
                  have hc2 := hS.mb.cell (show k < (N' + 7) / 8 * 8 by omega)
                  have hi1 : (k : Int) < ((N : Int) + 7) / 8 * 8 := by omega
                  have hi2 : (k : Int) < ((N' : Int) + 7) / 8 * 8 := by omega
                  have hk0 : k < (N' + 7) / 8 * 8 := by omega
                  have hd := HD.out
                  have HS := Lib.hid hS
                  clear hS
                  generalize M1 k = v1 at hc1 hc2 hd
                  generalize M2 k = v2 at hc1 hc2 hd
                  cases v1 <;> cases v2 <;> first | exact absurd rfl hd | skip
                  all_goals
                    clear hd
                    go_wp2_with fail
                    go_quiet (fail)
                    have hca := HS.out.ca
                    have hcb := HS.out.cb
                    go_wp2_with fail
                    refine (equals ga gb _ _ E1 E2 false HV.out HE1.out.lt HE2.out.lt _ (by exact HS.out.ra) (by exact HS.out.rb)).mono ?_
                    rintro e wx ⟨rfl, hbx⟩
                    have HBX := Lib.hid hbx
                    have ra' := Lib.hid (HS.out.ra.of_block (hbx.block _ HS.out.ra.lt))
                    have rb' := Lib.hid (HS.out.rb.of_block (hbx.block _ HS.out.rb.lt))
                    have hca' := (hbx.cell (p := ⟨w2.heap.size, 0, none⟩) HS.out.lt.1).trans hca
                    have hcb' := (hbx.cell (p := ⟨w3.heap.size, 0, none⟩) HS.out.lt.2).trans hcb
                    clear hbx hca hcb
                    go_wp2_with fail
                    refine (equals gb ga _ _ E2 E1 false HV2.out HE2.out.lt HE1.out.lt _ rb'.out ra'.out).mono ?_
                    rintro e wy ⟨rfl, hby⟩
                    have HBY := Lib.hid hby
                    clear hby
                    go_wp2_with fail
                    go_ret
                    exact ⟨rfl, ((HS.out.drewN _).bel.trans (HBX.out.mono HS.out.bel.size)).trans (HBY.out.mono (Nat.le_trans HS.out.bel.size HBX.out.size))⟩
          · have hmI : (((N : Int) + 7) / 8 * 8 == ((N' : Int) + 7) / 8 * 8) = false := by simp only [beq_eq_false_iff_ne]; omega
            have HV : Hid (eqB ((N + 7) / 8) E1 ((N' + 7) / 8) E2 = false) := Lib.hid (by rw [eqB_mod HE1.out HE2.out HM1.out HM2.out]; exact decide_eq_false fun h => hmm h.1)
            have HV2 : Hid (eqB ((N' + 7) / 8) E2 ((N + 7) / 8) E1 = false) := Lib.hid (by rw [eqB_comm]; exact HV.out)
            clear hmm
            have hca := HS.out.ca
            have hcb := HS.out.cb
            go_wp2_with fail
            refine (equals ga gb _ _ E1 E2 false HV.out HE1.out.lt HE2.out.lt _ (by exact HS.out.ra) (by exact HS.out.rb)).mono ?_
            rintro e wx ⟨rfl, hbx⟩
            have HBX := Lib.hid hbx
            have ra' := Lib.hid (HS.out.ra.of_block (hbx.block _ HS.out.ra.lt))
            have rb' := Lib.hid (HS.out.rb.of_block (hbx.block _ HS.out.rb.lt))
            have hca' := (hbx.cell (p := ⟨w2.heap.size, 0, none⟩) HS.out.lt.1).trans hca
            have hcb' := (hbx.cell (p := ⟨w3.heap.size, 0, none⟩) HS.out.lt.2).trans hcb
            clear hbx hca hcb
            go_wp2_with fail
            refine (equals gb ga _ _ E2 E1 false HV2.out HE2.out.lt HE1.out.lt _ rb'.out ra'.out).mono ?_
            rintro e wy ⟨rfl, hby⟩
            have HBY := Lib.hid hby
            clear hby
            go_wp2_with fail
            go_ret
            exact ⟨rfl, (HS.out.bel.trans (HBX.out.mono HS.out.bel.size)).trans (HBY.out.mono (Nat.le_trans HS.out.bel.size HBX.out.size))⟩

theorem fnBitSetEqualsSpec.walk (a0 : Int) (a1 : Option Addr) (n1 c1 : Nat) (f1 : Nat → Int) (a2 : Int) (a3 : Option Addr) (n3 c3 : Nat) (f3 : Nat → Int) (w : World) (w0 : (Lit.int .u64 a0).wf = true) (w1 : InInts .u64 w a1 n1 c1 f1)
    (w2 : (Lit.int .u64 a2).wf = true) (w3 : InInts .u64 w a3 n3 c3 f3) :
    Calls Try.prog 3 #[.int .u64 a0, .slice a1 n1 c1, .int .u64 a2, .slice a3 n3 c3] w fun e w' => e = .returned (.bool true) ∧ Below w.heap.size w w' := by
  obtain ⟨hlo, hhi⟩ := bounds_u64 w0
  obtain ⟨hlo2, hhi2⟩ := bounds_u64 w2
  by_cases hok : a0 ≤ 65536 ∧ a2 ≤ 65536 ∧ n1 + n3 ≤ 131072
  · obtain ⟨h1, h2, h3⟩ := hok
    obtain ⟨N, rfl⟩ : ∃ N : Nat, a0 = (N : Int) := ⟨a0.toNat, by omega⟩
    obtain ⟨N', rfl⟩ : ∃ N' : Nat, a2 = (N' : Int) := ⟨a2.toNat, by omega⟩
    exact main N N' a1 a3 n1 c1 n3 c3 f1 f3 w w1 w3 (by omega) (by omega) h3
  · have hm := w1.max
    have hle := w1.le
    have hm' := w3.max
    have hle' := w3.le
    unfold maxLen at hm hm'
    clear w0 w1 w2 w3
    have hcs : (65536 < a0) ∨ (a0 ≤ 65536 ∧ 65536 < a2) ∨ (a0 ≤ 65536 ∧ a2 ≤ 65536 ∧ 131072 < n1) ∨ (a0 ≤ 65536 ∧ a2 ≤ 65536 ∧ n1 ≤ 131072 ∧ 131072 < n3) ∨ (a0 ≤ 65536 ∧ a2 ≤ 65536 ∧ n1 ≤ 131072 ∧ n3 ≤ 131072 ∧ 131072 < n1 + n3) := by omega
    clear hok
    rcases hcs with h1 | ⟨h1, h2⟩ | ⟨h1, h2, h3⟩ | ⟨h1, h2, h3, h4⟩ | ⟨h1, h2, h3, h4, h5⟩
    all_goals
      go_enter Try.func3, Try.ntmps3
      go_wp2_with (go_at_call 5; refine (zzB5 _ _ _ _ _ _ _ _ (by unfold maxLen; omega) (by unfold maxLen; omega) _).mono ?_; rintro e w' ⟨rfl, rfl⟩)
      all_goals go_ret
      all_goals exact ⟨rfl, Below.refl _ _⟩
end Go.Proofs.Ytdehakheecckeaa
