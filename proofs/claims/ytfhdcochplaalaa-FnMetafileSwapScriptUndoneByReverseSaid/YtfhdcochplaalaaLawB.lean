/- The walk of the law FnMetafileSwapScriptUndoneByReverse. -/
import Derived.Test.YtfhdcochplaalaaLawA
import Derived.IntWalk
namespace Go.Proofs.Ytfhdcochplaalaa
open Go.RowKit
set_option linter.unusedVariables false
set_option linter.unusedSimpArgs false

theorem sw_sw {α : Type} (f : Nat → α) (i j : Nat) : sw (sw f i j) i j = f := by
  funext k
  unfold sw
  by_cases h1 : k = i
  · subst h1
    by_cases h2 : j = k
    · subst h2; simp
    · simp [h2]
  · by_cases h2 : k = j
    · subst h2; simp [h1]
    · simp [h1, h2]
/-- The first t swaps of a script. -/
def run {α : Type} (f : Nat → α) (p q : Nat → Nat) : Nat → Nat → α
  | 0 => f
  | t + 1 => sw (run f p q t) (p t) (q t)
theorem run_back {α : Type} (f : Nat → α) (p q : Nat → Nat) (t : Nat) : sw (run f p q (t + 1)) (p t) (q t) = run f p q t := sw_sw _ _ _

theorem still_l {P : Program} {f : FuncId} {args : Array Value} {w : World} {v : Value} (h : Calls P f args w fun e w' => e = .returned v ∧ w = w') : Calls P f args w fun e w' => e = .returned v ∧ w' = w := h.mono fun _ _ ⟨he, hm⟩ => ⟨he, hm.symm⟩
structure Ss (B g n m s : Nat) (A : Option Addr) (f : Nat → ByteArray) (A' : Option Addr) (fs : Nat → Int) (A'' : Option Addr) (z : Nat → Int) (nm : Nat → ByteArray) (sz : Nat → Int) (w wr : World) : Prop where
  ra : RowF wr B A n (fun i => .string (f i))
  rb : RowF wr B A' m (fun i => .int .i64 (fs i))
  rc : RowF wr B A'' s (fun i => .int .i64 (z i))
  row : Row4 wr g n nm sz
  bel : Below w.heap.size w wr
  wB : w.heap.size ≤ B
  Bg : B ≤ g
theorem Ss.step {B g n m s : Nat} {A : Option Addr} {f : Nat → ByteArray} {A' : Option Addr} {fs : Nat → Int} {A'' : Option Addr} {z : Nat → Int} {nm nm' : Nat → ByteArray} {sz sz' : Nat → Int} {w wr wx : World}
    (h : Ss B g n m s A f A' fs A'' z nm sz w wr) (hg : wr.grownBy wx (some g)) (hr : Row4 wx g n nm' sz') : Ss B g n m s A f A' fs A'' z nm' sz' w wx where
  ra := h.ra.grown hg (by have := h.row.lt; have := h.Bg; omega) h.Bg
  rb := h.rb.grown hg (by have := h.row.lt; have := h.Bg; omega) h.Bg
  rc := h.rc.grown hg (by have := h.row.lt; have := h.Bg; omega) h.Bg
  row := hr
  bel := h.bel.trans (below_of_only hg h.bel.size (Nat.le_trans h.wB h.Bg))
  wB := h.wB
  Bg := h.Bg

set_option maxHeartbeats 2000000 in
theorem fnMetafileSwapScriptUndoneByReverse.walk (a0 : Option Addr) (n0 c0 : Nat) (f0 : Nat → ByteArray) (a1 : Option Addr) (n1 c1 : Nat) (f1 : Nat → Int) (a2 : Option Addr) (n2 c2 : Nat) (f2 : Nat → Int) (w : World) (w0 : InStrs w a0 n0 c0 f0) (w1 : InInts .i64 w a1 n1 c1 f1)
    (w2 : InInts .i64 w a2 n2 c2 f2) :
    Calls Try.prog 3 #[.slice a0 n0 c0, .slice a1 n1 c1, .slice a2 n2 c2] w fun e w' => e = .returned (.bool true) ∧ Below w.heap.size w w' := by
  have hm1 := Nat.le_trans w1.le w1.max
  have hm2 := Nat.le_trans w2.le w2.max
  by_cases htot : n0 + tot f0 n0 + n1 + n2 ≤ 1048576
  · have W0 := Lib.hid w0
    have W1 := Lib.hid w1
    have W2 := Lib.hid w2
    have C1 := Lib.hid (decB true (decide_eq_true htot) (zzB5 a0 n0 c0 f0 a1 n1 c1 a2 n2 c2 w w0 hm1 hm2))
    clear w0 w1 w2 hm1 hm2
    go_enter Try.func3, Try.ntmps3
    go_wp2_with fail
    refine C1.out.mono ?_
    rintro e w' ⟨rfl, rfl⟩
    go_wp2_with fail
    refine (strBytes _ _ _ f0 _ W0.out (by omega)).mono ?_
    rintro e w' ⟨r, rfl, rfl, hr0, hr1, hr2⟩
    have HR2 := Lib.hid hr2
    clear hr2
    go_wp2_with fail
    refine (intBytes _ _ _ _ (by omega)).mono ?_
    rintro e w' ⟨rfl, rfl⟩
    go_wp2_with fail
    refine (intBytes _ _ _ _ (by omega)).mono ?_
    rintro e w' ⟨rfl, rfl⟩
    by_cases hsum : r + 8 * (n1 : Int) + 8 * (n2 : Int) ≤ 1048576
    · by_cases hn2 : n2 ≤ 65536
      · by_cases hpos : 0 < n0
        · have hne : ((n0 : Int) == 0) = false := by simp; omega
          go_wp2_with fail
          refine (cloneStrs _ _ _ f0 _ W0.out.row (by omega)).mono ?_
          rintro e wa ⟨A, c, rfl, hcc, hra, hba⟩
          have HRA := Lib.hid hra
          have HBA := Lib.hid hba
          have HRB := Lib.hid ((W1.out.row.below hba).more hba.size)
          have HRC := Lib.hid ((W2.out.row.below hba).more hba.size)
          clear hra hba hcc
          go_wp2_with fail
          refine (cloneInts _ _ _ f1 _ HRB.out (by omega)).mono ?_
          rintro e wb ⟨A', c', rfl, hcc, hrb, hbb⟩
          have HRA' := Lib.hid ((HRA.out.below hbb).more hbb.size)
          have HRB' := Lib.hid hrb
          have HRC' := Lib.hid ((HRC.out.below hbb).more hbb.size)
          have HBB := Lib.hid (HBA.out.trans (hbb.mono HBA.out.size))
          clear hrb hbb hcc HRA HRB HBA HRC
          go_wp2_with fail
          refine (cloneInts _ _ _ f2 _ HRC'.out (by omega)).mono ?_
          rintro e wc ⟨A'', c'', rfl, hcc, hrc, hbc⟩
          have HA := Lib.hid ((HRA'.out.below hbc).more hbc.size)
          have HB := Lib.hid ((HRB'.out.below hbc).more hbc.size)
          have HC := Lib.hid hrc
          have HBC := Lib.hid (HBB.out.trans (hbc.mono HBB.out.size))
          clear hrc hbc hcc HRA' HRB' HBB HRC'
          go_wp2_with fail
          refine (buildArr _ _ _ f0 _ _ _ f1 _ HA.out HB.out (by omega) (by omega)).mono ?_
          rintro e wd ⟨g, rfl, hg, hrow, hbd⟩
          have ST : Hid (Ss wc.heap.size g n0 n1 n2 A f0 A' f1 A'' f2 f0 (sizeAt n1 f1) w wd) :=
            Lib.hid ⟨HA.out.below hbd, HB.out.below hbd, HC.out.below hbd, hrow, HBC.out.trans (hbd.mono HBC.out.size), HBC.out.size, hg⟩
          clear hrow hbd HA HB HC HBC hg
          obtain ⟨p, hp⟩ : ∃ p : Nat → Nat, p = fun t => idx (f2 (2 * t)) n0 := ⟨_, rfl⟩
          obtain ⟨q, hq⟩ : ∃ q : Nat → Nat, q = fun t => idx (f2 (2 * t + 1)) n0 := ⟨_, rfl⟩
          have HP := Lib.hid hp
          have HQ := Lib.hid hq
          clear hp hq
          go_wp2_with fail
          go_loopg [10] (n2 / 2) (fun gh s wr => ∃ t : Nat, t ≤ n2 / 2 ∧ gh = n2 / 2 - t ∧ s = .int .i64 t ∧ Ss wc.heap.size g n0 n1 n2 A f0 A' f1 A'' f2 (run f0 p q t) (run (sizeAt n1 f1) p q t) w wr)
          case atStart => exact ⟨0, Nat.zero_le _, rfl, rfl, ST.out⟩
          case round =>
            obtain ⟨t, ht, rfl, rfl, hS⟩ := hrel
            clear ST
            by_cases hlt : t < n2 / 2
            · have h2t : 2 * t < n2 := by omega
              have h2t1 : 2 * t + 1 < n2 := by omega
              obtain ⟨b, o, hAe, hbb, hc⟩ := hS.rc.at_ h2t
              obtain ⟨b', o', hAe', hbb', hc'⟩ := hS.rc.at_ h2t1
              rw [hAe] at hAe'
              injection hAe' with hAe'
              injection hAe' with e1 e2 _
              subst e1 e2 hAe
              have HS := Lib.hid hS
              clear hS
              have l1 := idx_lt (f2 (2 * t)) hpos
              have l2 := idx_lt (f2 (2 * t + 1)) hpos
              go_wp2_with fail
              have v0 : (0 : Int) ≤ 2 * (t : Int) := by omega
              have v1 : 2 * (t : Int) < (n2 : Int) := by omega
              have v2 : (0 : Int) ≤ 2 * (t : Int) + 1 := by omega
              have v3 : 2 * (t : Int) + 1 < (n2 : Int) := by omega
              have v4 : (2 * (t : Int)).toNat = 2 * t := by omega
              have v5 : (2 * (t : Int) + 1).toNat = 2 * t + 1 := by omega
              have hn1 : n0 ≤ 1048576 := by omega
              have v6 := IntWalk.i64_in (2 * (t : Int)) (by omega)
              have v7 := IntWalk.i64_in (2 * (t : Int) + 1) (by omega)
              refine wp_region_still_tail 16 (by kernel_rfl) (by kernel_rfl) ?_
              simp only [List.take_succ_cons, List.take_zero, List.drop_succ_cons, List.drop_zero]
              repeat still_step
              still_call (still_l (index_any _ n0 hpos hn1 _))
              repeat still_step
              still_call (still_l (index_any _ n0 hpos hn1 _))
              repeat still_step
              refine wpStill_nil ?_
              clear v0 v1 v2 v3 v4 v5 v6 v7
              change wpList _ _ _ _ _ wr.drew
              go_wp2_with fail
              refine (zzSwap g n0 _ _ _ _ l1 l2 (by omega) _ HS.out.row.drew).mono ?_
              rintro e wx ⟨rfl, hrow, hgx⟩
              have HS' := Lib.hid (HS.out.step (only_of_drew hgx) hrow)
              clear hrow hgx HS hc hc'
              go_wp2_with fail
              go_roundg (n2 / 2 - (t + 1))
              case rel =>
                have e1 := HP.out
                have e2 := HQ.out
                refine ⟨t + 1, by omega, rfl, by go_num, ?_⟩
                have := HS'.out
                rw [show idx (f2 (2 * t)) n0 = p t by rw [e1], show idx (f2 (2 * t + 1)) n0 = q t by rw [e2]] at this
                exact this
              case measure => omega
            · have htn : t = n2 / 2 := by omega
              have HT := Lib.hid htn
              have HS := Lib.hid hS
              clear hS htn
              have hT9 : ((n2 : Int) / 2 - 1) = ((n2 / 2 : Nat) : Int) - 1 := by omega
              go_wp2_with fail
              obtain ⟨wo, rfl⟩ : ∃ wo : World, wo = wr := ⟨_, rfl⟩
              go_loopg [11] (n2 / 2) (fun gh s wr => ∃ t : Nat, t ≤ n2 / 2 ∧ t = gh ∧ s = .int .i64 ((t : Int) - 1) ∧ Ss wc.heap.size g n0 n1 n2 A f0 A' f1 A'' f2 (run f0 p q t) (run (sizeAt n1 f1) p q t) w wr)
              case atStart => exact ⟨n2 / 2, Nat.le_refl _, rfl, by first | rfl | (rw [← hT9]), by have := HS.out; rw [HT.out] at this; exact this⟩
              case round =>
                obtain ⟨t, ht, rfl, rfl, hS⟩ := hrel
                clear HS HT hT9
                by_cases hlt : 0 < t
                · obtain ⟨t, rfl⟩ : ∃ t', t = t' + 1 := ⟨t - 1, by omega⟩
                  rw [show ((t + 1 : Nat) : Int) - 1 = (t : Int) by omega]
                  have h2t : 2 * t < n2 := by omega
                  have h2t1 : 2 * t + 1 < n2 := by omega
                  obtain ⟨b, o, hAe, hbb, hc⟩ := hS.rc.at_ h2t
                  obtain ⟨b', o', hAe', hbb', hc'⟩ := hS.rc.at_ h2t1
                  rw [hAe] at hAe'
                  injection hAe' with hAe'
                  injection hAe' with e1 e2 _
                  subst e1 e2 hAe
                  have HS := Lib.hid hS
                  clear hS
                  have l1 := idx_lt (f2 (2 * t)) hpos
                  have l2 := idx_lt (f2 (2 * t + 1)) hpos
                  go_wp2_with fail
                  have v0 : (0 : Int) ≤ 2 * (t : Int) := by omega
                  have v1 : 2 * (t : Int) < (n2 : Int) := by omega
                  have v2 : (0 : Int) ≤ 2 * (t : Int) + 1 := by omega
                  have v3 : 2 * (t : Int) + 1 < (n2 : Int) := by omega
                  have v4 : (2 * (t : Int)).toNat = 2 * t := by omega
                  have v5 : (2 * (t : Int) + 1).toNat = 2 * t + 1 := by omega
                  have hn1 : n0 ≤ 1048576 := by omega
                  have v6 := IntWalk.i64_in (2 * (t : Int)) (by omega)
                  have v7 := IntWalk.i64_in (2 * (t : Int) + 1) (by omega)
                  refine wp_region_still_tail 16 (by kernel_rfl) (by kernel_rfl) ?_
                  simp only [List.take_succ_cons, List.take_zero, List.drop_succ_cons, List.drop_zero]
                  repeat still_step
                  still_call (still_l (index_any _ n0 hpos hn1 _))
                  repeat still_step
                  still_call (still_l (index_any _ n0 hpos hn1 _))
                  repeat still_step
                  refine wpStill_nil ?_
                  clear v0 v1 v2 v3 v4 v5 v6 v7
                  change wpList _ _ _ _ _ wr.drew
                  go_wp2_with fail
                  refine (zzSwap g n0 _ _ _ _ l1 l2 (by omega) _ HS.out.row.drew).mono ?_
                  rintro e wx ⟨rfl, hrow, hgx⟩
                  have HS' := Lib.hid (HS.out.step (only_of_drew hgx) hrow)
                  clear hrow hgx HS hc hc'
                  go_wp2_with fail
                  go_roundg t
                  case rel =>
                    have e1 := HP.out
                    have e2 := HQ.out
                    refine ⟨t, by omega, rfl, rfl, ?_⟩
                    have := HS'.out
                    rw [show idx (f2 (2 * t)) n0 = p t by rw [e1], show idx (f2 (2 * t + 1)) n0 = q t by rw [e2], run_back, run_back] at this
                    exact this
                  case measure => omega
                · obtain rfl : t = 0 := by omega
                  have HS := Lib.hid hS
                  clear hS
                  go_wp2_with fail
                  refine (isInput g _ _ _ f0 _ _ _ f1 _ _ HS.out.ra HS.out.rb HS.out.row (by omega) (by omega)).mono ?_
                  rintro e wx ⟨rfl, hbx⟩
                  have HX := Lib.hid hbx
                  clear hbx
                  go_wp2_with fail
                  go_ret
                  exact ⟨rfl, HS.out.bel.trans (HX.out.mono HS.out.bel.size)⟩
        · obtain rfl : n0 = 0 := by omega
          go_wp2_with fail
          go_ret
          exact ⟨rfl, Below.refl _ _⟩
      · go_wp2_with fail
        go_ret
        exact ⟨rfl, Below.refl _ _⟩
    · go_wp2_with fail
      go_ret
      exact ⟨rfl, Below.refl _ _⟩
  · have C1 := Lib.hid (decB false (decide_eq_false htot) (zzB5 a0 n0 c0 f0 a1 n1 c1 a2 n2 c2 w w0 hm1 hm2))
    clear w0 w1 w2 hm1 hm2
    go_enter Try.func3, Try.ntmps3
    go_wp2_with fail
    refine C1.out.mono ?_
    rintro e w' ⟨rfl, rfl⟩
    go_wp2_with fail
    go_ret
    exact ⟨rfl, Below.refl _ _⟩
end Go.Proofs.Ytfhdcochplaalaa
