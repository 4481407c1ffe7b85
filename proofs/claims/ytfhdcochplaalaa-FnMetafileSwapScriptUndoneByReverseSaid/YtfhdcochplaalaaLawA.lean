/- The walk of the law FnMetafileSwapExact. -/
import Derived.Test.YtfhdcochplaalaaMore
namespace Go.Proofs.Ytfhdcochplaalaa
open Go.RowKit
set_option linter.unusedVariables false
set_option linter.unusedSimpArgs false

theorem decB {p : Prop} [Decidable p] (v : Bool) (h : decide p = v) {P : Program} {F : FuncId} {args : Array Value} {w : World} (c : Calls P F args w fun e w' => e = .returned (.bool (decide p)) ∧ w = w') :
    Calls P F args w fun e w' => e = .returned (.bool v) ∧ w = w' := by rw [h] at c; exact c

set_option maxHeartbeats 1000000 in
theorem fnMetafileSwapExact.walk (a0 : Option Addr) (n0 c0 : Nat) (f0 : Nat → ByteArray) (a1 : Option Addr) (n1 c1 : Nat) (f1 : Nat → Int) (a2 a3 : Int) (w : World) (w0 : InStrs w a0 n0 c0 f0) (w1 : InInts .i64 w a1 n1 c1 f1)
    (w2 : (Lit.int .i64 a2).wf = true) (w3 : (Lit.int .i64 a3).wf = true) :
    Calls Try.prog 4 #[.slice a0 n0 c0, .slice a1 n1 c1, .int .i64 a2, .int .i64 a3] w fun e w' => e = .returned (.bool true) ∧ Below w.heap.size w w' := by
  have hm1 := Nat.le_trans w1.le w1.max
  by_cases htot : n0 + tot f0 n0 + n1 ≤ 1048576
  · have W0 := Lib.hid w0
    have W1 := Lib.hid w1
    have C1 := Lib.hid (decB true (decide_eq_true htot) (zzB14 a0 n0 c0 f0 a1 n1 c1 a2 a3 w w0 hm1))
    clear w0 w1 w2 w3 hm1
    go_enter Try.func4, Try.ntmps4
    go_wp2_with fail
    refine C1.out.mono ?_
    rintro e w' ⟨rfl, rfl⟩
    go_wp2_with fail
    refine (strBytes _ _ _ f0 _ W0.out (by omega)).mono ?_
    rintro e w' ⟨r, rfl, rfl, hr0, hr1, hr2⟩
    have HR2 := Lib.hid hr2
    clear hr2
    go_wp2_with fail
    refine (intBytes _ _ _ _ (by omega)).mono ?_
    rintro e w' ⟨rfl, rfl⟩
    by_cases hsum : r + 8 * (n1 : Int) ≤ 1048576
    · have hn0 := HR2.out (by omega)
      by_cases hij : (0 ≤ a2 ∧ a2 < n0) ∧ (0 ≤ a3 ∧ a3 < n0)
      · obtain ⟨⟨hi0, hi1⟩, hj0, hj1⟩ := hij
        obtain ⟨i, rfl⟩ : ∃ i : Nat, a2 = (i : Int) := ⟨a2.toNat, by omega⟩
        obtain ⟨j, rfl⟩ : ∃ j : Nat, a3 = (j : Int) := ⟨a3.toNat, by omega⟩
        have hi : i < n0 := by omega
        have hj : j < n0 := by omega
        go_wp2_with fail
        refine (cloneStrs _ _ _ f0 _ W0.out.row (by omega)).mono ?_
        rintro e wa ⟨A, c, rfl, hcc, hra, hba⟩
        have HRA := Lib.hid hra
        have HBA := Lib.hid hba
        have HRB := Lib.hid ((W1.out.row.below hba).more hba.size)
        clear hra hba hcc
        go_wp2_with fail
        refine (cloneInts _ _ _ f1 _ HRB.out (by omega)).mono ?_
        rintro e wb ⟨A', c', rfl, hcc, hrb, hbb⟩
        have HRA' := Lib.hid ((HRA.out.below hbb).more hbb.size)
        have HRB' := Lib.hid hrb
        have HBB := Lib.hid (HBA.out.trans (hbb.mono HBA.out.size))
        clear hrb hbb hcc HRA HRB HBA
        go_wp2_with fail
        refine (buildArr _ _ _ f0 _ _ _ f1 _ HRA'.out HRB'.out (by omega) (by omega)).mono ?_
        rintro e wc ⟨g, rfl, hg, hrow, hbc⟩
        have HA := Lib.hid (HRA'.out.below hbc)
        have HB := Lib.hid (HRB'.out.below hbc)
        have HBC := Lib.hid (HBB.out.trans (hbc.mono HBB.out.size))
        have HROW := Lib.hid hrow
        have hBs := hbc.size
        have hwb := HBB.out.size
        clear hrow hbc HRA' HRB' HBB
        go_wp2_with fail
        refine (zzSwap g n0 i j _ _ hi hj (by omega) _ HROW.out).mono ?_
        rintro e wd ⟨rfl, hrow, hgd⟩
        have HA' := Lib.hid (HA.out.grown hgd hBs hg)
        have HB' := Lib.hid (HB.out.grown hgd hBs hg)
        have HBD := Lib.hid (HBC.out.trans (below_of_only hgd HBC.out.size (Nat.le_trans hwb hg)))
        have HROW' := Lib.hid hrow
        clear hrow hgd HA HB HBC HROW
        go_wp2_with (go_at_call 15; refine (lenOf _ _ _).mono ?_; rintro e w' ⟨rfl, rfl⟩)
        go_loopg [11] n0 (fun gh s wr => ∃ (k q : Nat), k ≤ n0 ∧ gh = n0 - k ∧ s = .int .i64 k ∧ wr = wd.drewN q)
        case atStart => exact ⟨0, 0, Nat.zero_le _, rfl, rfl, rfl⟩
        case round =>
          obtain ⟨k, q, hk, rfl, rfl, rfl⟩ := hrel
          by_cases hlt : k < n0
          · rcases (show k = i ∨ (k ≠ i ∧ k = j) ∨ (k ≠ i ∧ k ≠ j) by omega) with hc1 | ⟨hc1, hc2⟩ | ⟨hc1, hc2⟩
            · subst hc1
              have hs1 : sw f0 k j k = f0 j := by simp [sw]
              have hs2 : sw (sizeAt n1 f1) k j k = sizeAt n1 f1 j := by simp [sw]
              obtain ⟨b, o, hAe, hbb, hc⟩ := HA'.out.at_ (show j < n0 by omega)
              subst hAe
              go_wp2_with fail
              generalize hw : wd.drewN q = w0'
              have H'' : Hid (RowF w0' wb.heap.size A' n1 (fun i => .int .i64 (f1 i))) := Lib.hid (by rw [← hw]; exact HB'.out)
              have HR' : Hid (Row4 w0' g n0 (sw f0 k j) (sw (sizeAt n1 f1) k j)) := Lib.hid (by rw [← hw]; exact HROW'.out)
              have hc' : w0'.cell? ⟨b, o + j, none⟩ = some (.string (f0 j)) := by rw [← hw]; exact hc
              have HW := Lib.hid hw
              clear hw hc
              go_quiet ((first
                | (go_at_call 16; exact quiet_l (nameAt _ _ k _ _ hlt (by omega) _ (by exact HR'.out)))
                | (go_at_call 17; exact quiet_l (sizeOf_ _ _ k _ _ hlt (by omega) _ (by exact HR'.out)))
                | (go_at_call 18; exact quiet_l (sizeAt_any _ _ _ j f1 _ _ (by exact H''.out) (by omega) (by omega)))))
              go_wp2_with fail
              go_roundg (n0 - (k + 1))
              case rel => exact ⟨k + 1, _, by omega, rfl, by go_num, by rw [← HW.out, World.drewN_drewN]⟩
              case measure => omega
            · subst hc2
              have hki : ((k : Int) == (i : Int)) = false := by simp; omega
              have hs1 : sw f0 i k k = f0 i := by simp [sw, hc1]
              have hs2 : sw (sizeAt n1 f1) i k k = sizeAt n1 f1 i := by simp [sw, hc1]
              clear hc1
              obtain ⟨b, o, hAe, hbb, hc⟩ := HA'.out.at_ (show i < n0 by omega)
              subst hAe
              go_wp2_with fail
              generalize hw : wd.drewN q = w0'
              have H'' : Hid (RowF w0' wb.heap.size A' n1 (fun i => .int .i64 (f1 i))) := Lib.hid (by rw [← hw]; exact HB'.out)
              have HR' : Hid (Row4 w0' g n0 (sw f0 i k) (sw (sizeAt n1 f1) i k)) := Lib.hid (by rw [← hw]; exact HROW'.out)
              have hc' : w0'.cell? ⟨b, o + i, none⟩ = some (.string (f0 i)) := by rw [← hw]; exact hc
              have HW := Lib.hid hw
              clear hw hc
              go_quiet ((first
                | (go_at_call 16; exact quiet_l (nameAt _ _ k _ _ hlt (by omega) _ (by exact HR'.out)))
                | (go_at_call 17; exact quiet_l (sizeOf_ _ _ k _ _ hlt (by omega) _ (by exact HR'.out)))
                | (go_at_call 18; exact quiet_l (sizeAt_any _ _ _ i f1 _ _ (by exact H''.out) (by omega) (by omega)))))
              go_wp2_with fail
              go_roundg (n0 - (k + 1))
              case rel => exact ⟨k + 1, _, by omega, rfl, by go_num, by rw [← HW.out, World.drewN_drewN]⟩
              case measure => omega
            · have hki : ((k : Int) == (i : Int)) = false := by simp; omega
              have hkj : ((k : Int) == (j : Int)) = false := by simp; omega
              have hs1 : sw f0 i j k = f0 k := by simp [sw, hc1, hc2]
              have hs2 : sw (sizeAt n1 f1) i j k = sizeAt n1 f1 k := by simp [sw, hc1, hc2]
              clear hc1 hc2
              obtain ⟨b, o, hAe, hbb, hc⟩ := HA'.out.at_ (show k < n0 by omega)
              subst hAe
              go_wp2_with fail
              generalize hw : wd.drewN q = w0'
              have H'' : Hid (RowF w0' wb.heap.size A' n1 (fun i => .int .i64 (f1 i))) := Lib.hid (by rw [← hw]; exact HB'.out)
              have HR' : Hid (Row4 w0' g n0 (sw f0 i j) (sw (sizeAt n1 f1) i j)) := Lib.hid (by rw [← hw]; exact HROW'.out)
              have hc' : w0'.cell? ⟨b, o + k, none⟩ = some (.string (f0 k)) := by rw [← hw]; exact hc
              have HW := Lib.hid hw
              clear hw hc
              go_quiet ((first
                | (go_at_call 16; exact quiet_l (nameAt _ _ k _ _ hlt (by omega) _ (by exact HR'.out)))
                | (go_at_call 17; exact quiet_l (sizeOf_ _ _ k _ _ hlt (by omega) _ (by exact HR'.out)))
                | (go_at_call 18; exact quiet_l (sizeAt_any _ _ _ k f1 _ _ (by exact H''.out) (by omega) (by omega)))))
              go_wp2_with fail
              go_roundg (n0 - (k + 1))
              case rel => exact ⟨k + 1, _, by omega, rfl, by go_num, by rw [← HW.out, World.drewN_drewN]⟩
              case measure => omega
          · go_wp2_with fail
            go_ret
            exact ⟨rfl, below_drewN' HBD.out _⟩
      · have hcs : a2 < 0 ∨ (0 ≤ a2 ∧ (n0 : Int) ≤ a2) ∨ (0 ≤ a2 ∧ a2 < n0 ∧ a3 < 0) ∨ (0 ≤ a2 ∧ a2 < n0 ∧ 0 ≤ a3 ∧ (n0 : Int) ≤ a3) := by omega
        clear hij
        rcases hcs with h1 | ⟨h1, h2⟩ | ⟨h1, h2, h3⟩ | ⟨h1, h2, h3, h4⟩
        all_goals
          go_wp2_with fail
          all_goals go_ret
          all_goals exact ⟨rfl, Below.refl _ _⟩
    · go_wp2_with fail
      go_ret
      exact ⟨rfl, Below.refl _ _⟩
  · have C1 := Lib.hid (decB false (decide_eq_false htot) (zzB14 a0 n0 c0 f0 a1 n1 c1 a2 a3 w w0 hm1))
    clear w0 w1 w2 w3 hm1
    go_enter Try.func4, Try.ntmps4
    go_wp2_with fail
    refine C1.out.mono ?_
    rintro e w' ⟨rfl, rfl⟩
    go_wp2_with fail
    go_ret
    exact ⟨rfl, Below.refl _ _⟩
end Go.Proofs.Ytfhdcochplaalaa
