/- convertLocationToInternal. -/
import Derived.Test.YtmfccgapgmjidaaLocs
import Derived.BigRegion
namespace Go.Proofs.Ytmfccgapgmjidaa
open Go.RowKit
set_option linter.unusedVariables false
set_option linter.unusedSimpArgs false

def nsOf (N : ByteArray) : ByteArray := if N.toList.isEmpty = true then ⟨#[102, 105, 108, 101]⟩ else N
set_option maxHeartbeats 4000000 in
theorem toInt18 (b : Nat) (F N : ByteArray) (i j k : Int) (T S : ByteArray) (w : World) (h : Pub w b F N i j k T S) :
    Calls Try.prog 18 #[.pointer (some ⟨b, 0, none⟩)] w fun e w' => ∃ g, e = .returned (.pointer (some ⟨g, 0, none⟩)) ∧ w.heap.size ≤ g ∧ Inn w' g F (nsOf N) i j k T S ∧ Below w.heap.size w w' := by
  obtain ⟨c0, c1, c2, c3, c4, c5, c6, hlt⟩ := h
  by_cases hN : N.toList.isEmpty = true
  · have hn := Lib.hid (show nsOf N = ⟨#[102, 105, 108, 101]⟩ by unfold nsOf; rw [if_pos hN])
    go_enter Try.func18, Try.ntmps18
    go_wp2_with fail
    go_still_tail 31, (by kernel_rfl)
    change wpList _ _ _ _ _ w.drew
    go_wp2_with fail
    go_ret
    exact ⟨_, rfl, Nat.le_refl _, by rw [hn.out]; exact Inn.of (heap_new_at (by simp)), ((Below.refl _ _).drew).alloc (by simp) _⟩
  · have hN : N.toList.isEmpty = false := by simpa using hN
    have hn := Lib.hid (show nsOf N = N by unfold nsOf; rw [hN]; rfl)
    go_enter Try.func18, Try.ntmps18
    go_wp2_with fail
    go_still_tail 31, (by kernel_rfl)
    change wpList _ _ _ _ _ w.drew
    go_wp2_with fail
    go_ret
    exact ⟨_, rfl, Nat.le_refl _, by rw [hn.out]; exact Inn.of (heap_new_at (by simp)), ((Below.refl _ _).drew).alloc (by simp) _⟩
theorem toInt (b : Nat) (F N : ByteArray) (i j k : Int) (T S : ByteArray) (w : World) (h : Pub w b F N i j k T S) :
    Calls Try.prog 7 #[.pointer (some ⟨b, 0, none⟩)] w fun e w' => ∃ g, e = .returned (.pointer (some ⟨g, 0, none⟩)) ∧ w.heap.size ≤ g ∧ Inn w' g F (nsOf N) i j k T S ∧ Below w.heap.size w w' := by
  have C := Lib.hid (toInt18 b F N i j k T S w h)
  clear h
  go_enter Try.func7, Try.ntmps7
  go_wp2_with fail
  refine C.out.mono ?_
  rintro e w1 ⟨g, rfl, hg, hI, hb⟩
  have HI := Lib.hid hI
  have HB := Lib.hid hb
  clear hI hb
  go_wp2_with fail
  go_ret
  exact ⟨g, rfl, hg, HI.out, HB.out⟩
theorem toIntNone18 (w : World) : Calls Try.prog 18 #[.pointer none] w fun e w' => e = .returned (.pointer none) ∧ w = w' := by
  go_enter Try.func18, Try.ntmps18
  go_wp2_with fail
  go_ret
  exact ⟨rfl, rfl⟩
theorem toIntNone (w : World) : Calls Try.prog 7 #[.pointer none] w fun e w' => e = .returned (.pointer none) ∧ w = w' := by
  go_enter Try.func7, Try.ntmps7
  go_wp2_with fail
  refine (toIntNone18 w).mono ?_
  rintro e w1 ⟨rfl, rfl⟩
  go_wp2_with fail
  go_ret
  exact ⟨rfl, rfl⟩
end Go.Proofs.Ytmfccgapgmjidaa
