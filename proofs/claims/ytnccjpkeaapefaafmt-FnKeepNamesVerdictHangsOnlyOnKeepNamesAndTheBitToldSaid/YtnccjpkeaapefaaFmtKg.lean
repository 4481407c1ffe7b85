/- The bound and the law of the kept names. -/
import Derived.Test.YtnccjpkeaapefaaFmtKf
import Derived.Test.YtnccjpkeaapefaaFmtRows
import Derived.WalkKit
import Derived.WalkLawsBesides
import Derived.WalkSpells
import Derived.Deep.LoopGhost
import Derived.Outline
import Derived.RegionTactic
import Derived.StillTailTactics
import Derived.Deep.QuietTactic
import Derived.BigQuiet
import Derived.ChangeAlike
import Derived.Lib.Strings
namespace Go.Proofs.YtnccjpkeaapefaaFmt
open Go.RowKit Go.Extern.Stop Go.Stop Go.Extern
set_option linter.unusedVariables false
set_option linter.unusedSimpArgs false
theorem ret_boolv {a b : Bool} (h : b = a) : Ending.returned (.bool a) = .returned (.bool b) := by rw [h]
set_option maxHeartbeats 2000000 in
set_option maxRecDepth 100000 in
theorem zzB (b0 : Bool) (x1 : Int) (x2 : Int) (s3 : ByteArray) (s4 : ByteArray) (x5 : Int) (x6 : Int) (w : World) (h3 : s3.size ≤ maxLen) (h4 : s4.size ≤ maxLen) : Calls Tryf.prog 4 #[.bool b0, .int .u64 x1, .int .u64 x2, .string s3, .string s4, .int .u64 x5, .int .u64 x6] w fun e w' => e = .returned (.bool (decide (s3.size + s4.size ≤ 1048576))) ∧ w = w' := by
  unfold maxLen at h3
  unfold maxLen at h4
  go_enter Tryf.func4, Tryf.ntmps4
  by_cases hA3 : s3.size ≤ 1048576
  · by_cases hA4 : s4.size ≤ 1048576
    · by_cases hB4 : s3.size + s4.size ≤ 1048576
      · go_wp2_with fail
        go_ret
        exact ⟨ret_boolv (by  exact decide_eq_true (by omega)), rfl⟩
      · go_wp2_with fail
        go_ret
        exact ⟨ret_boolv (by   exact decide_eq_false (by omega)), rfl⟩
    · go_wp2_with fail
      go_ret
      exact ⟨ret_boolv (by   exact decide_eq_false (by omega)), rfl⟩
  · go_wp2_with fail
    go_ret
    exact ⟨ret_boolv (by   exact decide_eq_false (by omega)), rfl⟩
theorem wrap_id {n : Nat} (h : n < 18446744073709551616) : IntKind.u64.wrap (n : Int) = (n : Int) := by
  simp only [IntKind.wrap, IntKind.bits, IntKind.signed]
  simp
  omega
theorem ofNat_bv (x : BitVec 64) : BitVec.ofInt 64 (x.toNat : Int) = x := by rw [BitVec.ofInt_natCast, BitVec.ofNat_toNat]; simp
theorem bits_or (x y : Int) : bits .or .u64 x y = ((BitVec.ofInt 64 x ||| BitVec.ofInt 64 y).toNat : Int) := wrap_id (BitVec.isLt _)
theorem bits_and (x y : Int) : bits .and .u64 x y = ((BitVec.ofInt 64 x &&& BitVec.ofInt 64 y).toNat : Int) := wrap_id (BitVec.isLt _)
theorem bits_andNot (x y : Int) : bits .andNot .u64 x y = ((BitVec.ofInt 64 x &&& ~~~BitVec.ofInt 64 y).toNat : Int) := wrap_id (BitVec.isLt _)
theorem mixed (u o : Nat) : ∃ U : Nat, bits .or .u64 (bits .andNot .u64 (o : Int) 134217728) (bits .and .u64 (u : Int) 134217728) = (U : Int) ∧ bit27 U = bit27 u := by
  refine ⟨_, bits_or _ _, ?_⟩
  unfold bit27
  simp only [bits_and, bits_andNot, ofNat_bv]
  generalize BitVec.ofInt 64 (u : Int) = a
  generalize BitVec.ofInt 64 (o : Int) = c
  generalize BitVec.ofInt 64 134217728 = d
  have e : ((c &&& ~~~d) ||| (a &&& d)) &&& d = a &&& d := by
    ext i hi
    simp only [BitVec.getElem_and, BitVec.getElem_or, BitVec.getElem_not]
    cases c[i] <;> cases a[i] <;> cases d[i] <;> rfl
  rw [e]
set_option maxRecDepth 100000 in
set_option maxHeartbeats 4000000 in
theorem law (F : Interp) (b0 : Bool) (u o : Nat) (s3 s4 : ByteArray) (m5 m6 : Nat) (w : World) (h3 : s3.size ≤ maxLen) (h4 : s4.size ≤ maxLen) (hF : F.told.answers w.tape) :
    Calls Tryf.prog 3 #[.bool b0, .int .u64 u, .int .u64 o, .string s3, .string s4, .int .u64 m5, .int .u64 m6] w fun e w' => e = .returned (.bool true) ∧ Below w.heap.size w w' := by
  have HF := Lib.hid hF
  clear hF
  have HB := Lib.hid (Below.refl w.heap.size w)
  obtain ⟨U2, hU2, hb27⟩ := mixed u o
  obtain ⟨V, hV⟩ : ∃ V, (b0 && bit27 u) = V := ⟨_, rfl⟩
  obtain ⟨N, hN⟩ : ∃ N : Nat, N = if V = true then 1 else 0 := ⟨_, rfl⟩
  have H1 := Lib.hid hV
  have H2 : Hid ((b0 && bit27 U2) = V) := Lib.hid (by rw [hb27]; exact hV)
  have H3 : Hid ((false && bit27 u) = false) := Lib.hid rfl
  have HN := Lib.hid hN
  have HN0 : Hid ((0 : Nat) = if false = true then 1 else 0) := Lib.hid rfl
  clear hV hN hb27
  by_cases hsz : s3.size + s4.size ≤ 1048576
  · have hd : decide (s3.size + s4.size ≤ 1048576) = true := decide_eq_true hsz
    go_enter Tryf.func3, Tryf.ntmps3
    go_wp2_with (first
      | (go_at_call 4; refine (zzB _ _ _ _ _ _ _ _ h3 h4).mono ?_; rintro e w' ⟨rfl, rfl⟩)
      | (go_at_call 5; go_in)
      | (go_at_call 6; (first | with_reducible refine (zzV F b0 u m5 s3 _ HF.out V N H1.out HN.out).mono ?_ | with_reducible refine (zzV F b0 U2 m6 s4 _ HF.out V N H2.out HN.out).mono ?_ | with_reducible refine (zzV F false u m5 s3 _ HF.out false 0 H3.out HN0.out).mono ?_); rintro e w1 ⟨rfl, hb1⟩; have HF := Lib.hid (show F.told.answers w1.tape by rw [hb1.tape]; exact HF.out); have HB := Lib.hid (below_step HB.out hb1); clear hb1))
    all_goals go_ret
    all_goals exact ⟨rfl, HB.out⟩
  · have hd : decide (s3.size + s4.size ≤ 1048576) = false := decide_eq_false hsz
    go_enter Tryf.func3, Tryf.ntmps3
    go_wp2_with (first
      | (go_at_call 4; refine (zzB _ _ _ _ _ _ _ _ h3 h4).mono ?_; rintro e w' ⟨rfl, rfl⟩))
    go_ret
    exact ⟨rfl, HB.out⟩
end Go.Proofs.YtnccjpkeaapefaaFmt

