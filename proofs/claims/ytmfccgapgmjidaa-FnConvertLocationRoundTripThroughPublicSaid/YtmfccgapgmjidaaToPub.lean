/- convertLocationToPublic. -/
import Derived.Test.YtmfccgapgmjidaaLocs
import Derived.BigRegion
namespace Go.Proofs.Ytmfccgapgmjidaa
open Go.RowKit
set_option linter.unusedVariables false
set_option linter.unusedSimpArgs false

theorem Inn.drew {w : World} {b : Nat} {F N T S : ByteArray} {i j k : Int} (h : Inn w b F N i j k T S) : Inn w.drew b F N i j k T S := ⟨h.c0, h.c1, h.c2, h.c3, h.c4, h.c5, h.c6, h.c7, h.lt⟩
theorem select (b : Nat) (F N : ByteArray) (i j k : Int) (T S : ByteArray) (w : World) (h : Inn w b F N i j k T S) (x : Int) :
    Calls Try.prog 22 #[.pointer (some ⟨b, 0, none⟩), .int .u8 x] w fun e w' => e = .returned (.string F) ∧ w' = w := by
  have c0 := h.c0
  have c1 := h.c1
  clear h
  by_cases hx : (x == 1) = true
  · go_enter Try.func22, Try.ntmps22
    go_wp2_with fail
    go_ret
    exact ⟨rfl, rfl⟩
  · have hx : (x == 1) = false := by simpa using hx
    go_enter Try.func22, Try.ntmps22
    go_wp2_with fail
    go_ret
    exact ⟨rfl, rfl⟩
set_option maxHeartbeats 4000000 in
theorem toPub19 (b : Nat) (F N : ByteArray) (i j k : Int) (T S : ByteArray) (x : Int) (w : World) (h : Inn w b F N i j k T S) :
    Calls Try.prog 19 #[.pointer (some ⟨b, 0, none⟩), .int .u8 x] w fun e w' => ∃ g, e = .returned (.pointer (some ⟨g, 0, none⟩)) ∧ w.heap.size ≤ g ∧ Pub w' g F N i j k T S ∧ Below w.heap.size w w' := by
  have HH := Lib.hid h
  obtain ⟨c0, c1, c2, c3, c4, c5, c6, c7, hlt⟩ := h
  go_enter Try.func19, Try.ntmps19
  go_wp2_with fail
  go_still_tail 30, (by kernel_rfl)
  still_call (select b F N i j k T S w.drew HH.out.drew x)
  repeat still_step
  refine wpStill_nil ?_
  change wpList _ _ _ _ _ w.drew
  go_wp2_with fail
  go_ret
  exact ⟨_, rfl, Nat.le_refl _, Pub.of (heap_new_at (by simp)), ((Below.refl _ _).drew).alloc (by simp) _⟩
theorem toPub (b : Nat) (F N : ByteArray) (i j k : Int) (T S : ByteArray) (x : Int) (w : World) (h : Inn w b F N i j k T S) :
    Calls Try.prog 9 #[.pointer (some ⟨b, 0, none⟩), .int .u8 x] w fun e w' => ∃ g, e = .returned (.pointer (some ⟨g, 0, none⟩)) ∧ w.heap.size ≤ g ∧ Pub w' g F N i j k T S ∧ Below w.heap.size w w' := by
  have C := Lib.hid (toPub19 b F N i j k T S x w h)
  clear h
  go_enter Try.func9, Try.ntmps9
  go_wp2_with fail
  refine C.out.mono ?_
  rintro e w1 ⟨g, rfl, hg, hI, hb⟩
  have HI := Lib.hid hI
  have HB := Lib.hid hb
  clear hI hb
  go_wp2_with fail
  go_ret
  exact ⟨g, rfl, hg, HI.out, HB.out⟩
theorem toPubNone19 (x : Int) (w : World) : Calls Try.prog 19 #[.pointer none, .int .u8 x] w fun e w' => e = .returned (.pointer none) ∧ w = w' := by
  go_enter Try.func19, Try.ntmps19
  go_wp2_with fail
  go_ret
  exact ⟨rfl, rfl⟩
theorem toPubNone (x : Int) (w : World) : Calls Try.prog 9 #[.pointer none, .int .u8 x] w fun e w' => e = .returned (.pointer none) ∧ w = w' := by
  go_enter Try.func9, Try.ntmps9
  go_wp2_with fail
  refine (toPubNone19 x w).mono ?_
  rintro e w1 ⟨rfl, rfl⟩
  go_wp2_with fail
  go_ret
  exact ⟨rfl, rfl⟩
set_option maxHeartbeats 4000000 in
set_option maxRecDepth 100000 in
theorem locEq (b g : Nat) (F N : ByteArray) (i j k : Int) (T S : ByteArray) (w : World) (h : Inn w b F N i j k T S) (h' : Inn w g F N i j k T S) :
    Calls Try.prog 10 #[.pointer (some ⟨b, 0, none⟩), .pointer (some ⟨g, 0, none⟩)] w fun e w' => e = .returned (.bool true) ∧ ∃ m, w' = w.drewN m := by
  obtain ⟨c0, c1, c2, c3, c4, c5, c6, c7, hlt⟩ := h
  obtain ⟨d0, d1, d2, d3, d4, d5, d6, d7, hlt'⟩ := h'
  go_enter Try.func10, Try.ntmps10
  go_wp2_with fail
  go_quiet (fail)
  go_wp2_with fail
  go_ret
  exact ⟨rfl, _, rfl⟩
end Go.Proofs.Ytmfccgapgmjidaa
