/- The walk of the law FnStringArraysEqualMatchesLengthPrefixedEncoding. -/
import Derived.Test.YtnifibidbldneaaWalks
namespace Go.Proofs.Ytnifibidbldneaa
open Go.RowKit
set_option linter.unusedVariables false
set_option linter.unusedSimpArgs false

theorem decB {p : Prop} [Decidable p] (v : Bool) (h : decide p = v) {P : Program} {F : FuncId} {args : Array Value} {w : World} (c : Calls P F args w fun e w' => e = .returned (.bool (decide p)) ∧ w = w') :
    Calls P F args w fun e w' => e = .returned (.bool v) ∧ w = w' := by rw [h] at c; exact c
theorem enc_sameS (n : Nat) (f : Nat → ByteArray) (m : Nat) (g : Nat → ByteArray) : ((encS f n).toList == (encS g m).toList) = sameS n f m g := by
  rw [← enc_same, Lib.toList_data, Lib.toList_data]
  rfl

set_option maxHeartbeats 1000000 in
theorem fnStringArraysEqualMatchesLengthPrefixedEncoding.walk (a0 : Option Addr) (n0 c0 : Nat) (f0 : Nat → ByteArray) (a1 : Option Addr) (n1 c1 : Nat) (f1 : Nat → ByteArray) (w : World) (w0 : InStrs w a0 n0 c0 f0) (w1 : InStrs w a1 n1 c1 f1) :
    Calls Try.prog 3 #[.slice a0 n0 c0, .slice a1 n1 c1] w fun e w' => e = .returned (.bool true) ∧ Below w.heap.size w w' := by
  by_cases htot : n0 + tot f0 n0 + n1 + tot f1 n1 ≤ 1048576
  · have C1 := Lib.hid (decB true (decide_eq_true htot) (zzB5 a0 n0 c0 f0 a1 n1 c1 f1 w w0 w1))
    have W0 := Lib.hid w0
    have W1 := Lib.hid w1
    clear w0 w1
    go_enter Try.func3, Try.ntmps3
    go_wp2_with fail
    refine C1.out.mono ?_
    rintro e w' ⟨rfl, rfl⟩
    go_wp2_with fail
    refine (strBytes _ _ _ f0 _ _ W0.out.row (by omega)).mono ?_
    rintro e w' ⟨r, rfl, rfl, hr0, hr1, hr2⟩
    clear hr2
    go_wp2_with fail
    refine (strBytes _ _ _ f1 _ _ W1.out.row (by omega)).mono ?_
    rintro e w' ⟨r', rfl, rfl, hr0', hr1', hr2'⟩
    clear hr2'
    by_cases hsum : r + r' ≤ 1048576
    · go_wp2_with fail
      refine (clone _ _ _ f0 _ W0.out.row (by omega)).mono ?_
      rintro e wa ⟨A, c, rfl, hcc, hra, hba⟩
      have HRA := Lib.hid hra
      have HBA := Lib.hid hba
      have HRB := Lib.hid ((W1.out.row.below hba).more hba.size)
      clear hra hba hcc
      go_wp2_with fail
      refine (clone _ _ _ f1 _ HRB.out (by omega)).mono ?_
      rintro e wb ⟨A', c', rfl, hcc, hrb, hbb⟩
      have HA := Lib.hid ((HRA.out.below hbb).more hbb.size)
      have HB := Lib.hid hrb
      have HBB := Lib.hid (HBA.out.trans (hbb.mono HBA.out.size))
      clear hrb hbb hcc HRA HRB HBA
      go_wp2_with fail
      refine (arraysEqual A n0 c f0 A' n1 c' f1 _ _ _ HA.out HB.out (by omega) (by omega)).mono ?_
      rintro e w' ⟨rfl, rfl⟩
      go_wp2_with fail
      refine (encode A n0 c f0 _ HA.out (by omega)).mono ?_
      rintro e wc ⟨rfl, hbc⟩
      have HB2 := Lib.hid ((HB.out.below hbc).more hbc.size)
      have HBC := Lib.hid (HBB.out.trans (hbc.mono HBB.out.size))
      clear hbc
      go_wp2_with fail
      refine (encode A' n1 c' f1 _ HB2.out (by omega)).mono ?_
      rintro e wd ⟨rfl, hbd⟩
      have HBD := Lib.hid (HBC.out.trans (hbd.mono HBC.out.size))
      clear hbd
      have he := enc_sameS n0 f0 n1 f1
      generalize sameS n0 f0 n1 f1 = v at *
      cases v
      all_goals
        go_wp2_with fail
        go_ret
        exact ⟨rfl, HBD.out⟩
    · go_wp2_with fail
      go_ret
      exact ⟨rfl, Below.refl _ _⟩
  · have C1 := Lib.hid (decB false (decide_eq_false htot) (zzB5 a0 n0 c0 f0 a1 n1 c1 f1 w w0 w1))
    clear w0 w1
    go_enter Try.func3, Try.ntmps3
    go_wp2_with fail
    refine C1.out.mono ?_
    rintro e w' ⟨rfl, rfl⟩
    go_wp2_with fail
    go_ret
    exact ⟨rfl, Below.refl _ _⟩
end Go.Proofs.Ytnifibidbldneaa
