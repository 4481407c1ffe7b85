/- The walk of the law FnLengthAgreesWithDone. -/
import Derived.Test.YtkdbgonfikibeaaLaws
namespace Go.Proofs.Ytkdbgonfikibeaa
open Go.RowKit
set_option linter.unusedVariables false
set_option linter.unusedSimpArgs false

set_option maxHeartbeats 1000000 in
theorem fnLengthAgreesWithDone.walk (a0 : Option Addr) (n0 c0 : Nat) (f0 : Nat → ByteArray) (a1 : Option Addr) (n1 c1 : Nat) (f1 : Nat → Bool) (a2 : Bool) (w : World) (w0 : InStrs w a0 n0 c0 f0) (w1 : InBools w a1 n1 c1 f1) :
    Calls Try.prog 4 #[.slice a0 n0 c0, .slice a1 n1 c1, .bool a2] w fun e w' => e = .returned (.bool true) ∧ Below w.heap.size w w' := by
  have hm1 := Nat.le_trans w1.le w1.max
  by_cases htot : n0 + tot f0 n0 + n1 ≤ 1048576
  · have C1 := Lib.hid (decB true (decide_eq_true htot) (zzB11 a0 n0 c0 f0 a1 n1 c1 a2 w w0 hm1))
    have C2 := Lib.hid (tooBig a0 n0 c0 f0 a1 n1 c1 w w0 htot)
    have W0 := Lib.hid w0
    have W1 := Lib.hid w1
    clear w0 w1 hm1
    go_enter Try.func4, Try.ntmps4
    go_wp2_with fail
    refine C1.out.mono ?_
    rintro e w' ⟨rfl, rfl⟩
    go_wp2_with fail
    refine C2.out.mono ?_
    rintro e w' ⟨bg, rfl, rfl⟩
    cases bg
    · go_wp2_with fail
      have hra := (W0.out.row.keep (w' := w.alloc (.cells #[.slice none 0 0, .slice none 0 0, .int .u32 0, .int .u8 0] 30)) fun p hp => World.cell?_alloc_old _ _ _ (by omega))
      have hrb := (W1.out.row.keep (w' := w.alloc (.cells #[.slice none 0 0, .slice none 0 0, .int .u32 0, .int .u8 0] 30)) fun p hp => World.cell?_alloc_old _ _ _ (by omega))
      refine (build w.heap.size (w.heap.size + 1) a0 n0 c0 f0 a1 n1 c1 f1 _ hra hrb (by omega) (by omega) (by omega) (J.start w f0 _)).mono ?_
      rintro e wa ⟨rfl, hj, hb⟩
      have HJ := Lib.hid hj
      have HB := Lib.hid hb
      clear hj hb hra hrb
      cases a2
      · go_wp2_with fail
        refine (lengthOf w.heap.size (w.heap.size + 1) n0 f0 _ _ HJ.out).mono ?_
        rintro e wb ⟨rfl, rfl⟩
        go_wp2_with fail
        refine (done w.heap.size (w.heap.size + 1) n0 f0 _ (by omega) (by omega) _ HJ.out).mono ?_
        rintro e wb ⟨A, c, rfl, hr, hb⟩
        have HB2 := Lib.hid hb
        have hsz := HB.out.size
        simp at hsz
        clear hr hb
        go_wp2_with fail
        go_ret
        have s1 : w.heap.size ≤ wa.heap.size := by omega
        have b0 : Below w.heap.size w wa := ((Below.refl _ _).alloc (Nat.le_refl _) _).trans HB.out
        exact ⟨rfl, b0.trans (HB2.out.mono s1)⟩
      · go_wp2_with fail
        refine (ensure w.heap.size (w.heap.size + 1) n0 f0 _ (by omega) (by omega) _ HJ.out).mono ?_
        rintro e wx ⟨rfl, f', κ', n', hj', hn', ht', hb'⟩
        have HJ' := Lib.hid hj'
        have HB' := Lib.hid hb'
        clear hj' hb'
        go_wp2_with fail
        refine (lengthOf w.heap.size (w.heap.size + 1) n' f' _ _ HJ'.out).mono ?_
        rintro e wb ⟨rfl, rfl⟩
        go_wp2_with fail
        refine (done w.heap.size (w.heap.size + 1) n' f' _ (by omega) (by omega) _ HJ'.out).mono ?_
        rintro e wb ⟨A, c, rfl, hr, hb⟩
        have HB2 := Lib.hid hb
        have hsz := HB.out.size
        have hsz' := HB'.out.size
        simp at hsz
        clear hr hb
        go_wp2_with fail
        go_ret
        have b0 : Below w.heap.size w wa := ((Below.refl _ _).alloc (Nat.le_refl _) _).trans HB.out
        exact ⟨rfl, (b0.trans HB'.out).trans (HB2.out.mono (by omega))⟩
    · go_wp2_with fail
      go_ret
      exact ⟨rfl, Below.refl _ _⟩
  · have C1 := Lib.hid (decB false (decide_eq_false htot) (zzB11 a0 n0 c0 f0 a1 n1 c1 a2 w w0 hm1))
    clear w0 w1 hm1
    go_enter Try.func4, Try.ntmps4
    go_wp2_with fail
    refine C1.out.mono ?_
    rintro e w' ⟨rfl, rfl⟩
    go_wp2_with fail
    go_ret
    exact ⟨rfl, Below.refl _ _⟩
end Go.Proofs.Ytkdbgonfikibeaa
