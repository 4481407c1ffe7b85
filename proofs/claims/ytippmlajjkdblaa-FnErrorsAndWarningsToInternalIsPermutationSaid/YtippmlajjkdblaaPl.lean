/- convertLocationToInternal. -/
import Derived.Test.YtippmlajjkdblaaPk
namespace Go.Proofs.Ytippmlajjkdblaa
open Go.RowKit
set_option linter.unusedVariables false
set_option linter.unusedSimpArgs false
set_option maxHeartbeats 4000000 in
theorem toInt1 (b : Nat) (P : PubA) (w : World) (h : Pub w b P) :
    Calls Try.prog 17 #[.pointer (some ⟨b, 0, none⟩)] w fun e w' => ∃ g, e = .returned (.pointer (some ⟨g, 0, none⟩)) ∧ ZL w' g ∧ Raw w' g (intOf P) ∧ Below w.heap.size w w' := by
  obtain ⟨F, N, i, j, k, T, S⟩ := P
  obtain ⟨c0, c1, c2, c3, c4, c5, c6, hlt⟩ := h
  simp only at c0 c1 c2 c3 c4 c5 c6
  by_cases hN : N.toList.isEmpty = true
  · have hn := Lib.hid (show nsOf N = ⟨#[102, 105, 108, 101]⟩ by unfold nsOf; rw [if_pos hN])
    go_enter Try.func17, Try.ntmps17
    go_wp2_with fail
    go_still_tail 31, (by kernel_rfl)
    change wpList _ _ _ _ _ w.drew
    go_wp2_with fail
    go_ret
    exact ⟨_, rfl, ⟨_, heap_new_at (by simp)⟩, Raw.of (by simp only [intOf]; rw [hn.out]; exact heap_new_at (by simp)), ((Below.refl _ _).drew).alloc (by simp) _⟩
  · have hN : N.toList.isEmpty = false := by simpa using hN
    have hn := Lib.hid (show nsOf N = N by unfold nsOf; rw [hN]; rfl)
    go_enter Try.func17, Try.ntmps17
    go_wp2_with fail
    go_still_tail 31, (by kernel_rfl)
    change wpList _ _ _ _ _ w.drew
    go_wp2_with fail
    go_ret
    exact ⟨_, rfl, ⟨_, heap_new_at (by simp)⟩, Raw.of (by simp only [intOf]; rw [hn.out]; exact heap_new_at (by simp)), ((Below.refl _ _).drew).alloc (by simp) _⟩
theorem toInt (p : Option Addr) (o : Option PubA) (w : World) (h : IsLoc w p o) :
    Calls Try.prog 17 #[.pointer p] w fun e w' => ∃ l q, e = .returned (.pointer q) ∧ .pointer q = locv l ∧ IsRaw w' (ZL w') l (o.map intOf) ∧ Below w.heap.size w w' := by
  cases o with
  | none =>
    obtain rfl : p = none := h
    go_enter Try.func17, Try.ntmps17
    go_wp2_with fail
    go_ret
    exact ⟨none, _, rfl, rfl, rfl, Below.refl _ _⟩
  | some P =>
    obtain ⟨g, rfl, _, hr⟩ := h
    refine (toInt1 g P w hr).mono ?_
    rintro e w' ⟨g', rfl, hg, hp, hb⟩
    exact ⟨some g', _, rfl, rfl, ⟨g', rfl, hg, hp⟩, hb⟩
end Go.Proofs.Ytippmlajjkdblaa
