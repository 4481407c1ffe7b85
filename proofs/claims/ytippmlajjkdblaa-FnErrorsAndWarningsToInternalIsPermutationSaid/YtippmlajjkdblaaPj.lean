/- StringToMaximumMsgID: the greatest of the numbers that a name sets, whatever the order. -/
import Derived.Test.YtippmlajjkdblaaPi
import Derived.Deep.RegionHeld3
namespace Go.Proofs.Ytippmlajjkdblaa
open Go.RowKit Go.Maps
set_option linter.unusedVariables false
set_option linter.unusedSimpArgs false
structure Mx (D : DataW Unit) (left : Lit → Bool) (m : Int) : Prop where
  ge : 0 ≤ m
  src : m = 0 ∨ has D (.int .u8 m) = true
  ub : ∀ k, has D (.int .u8 k) = true → left (.int .u8 k) = false → k ≤ m
  sub : ∀ kl, left kl = true → has D kl = true
theorem Mx.same {D : DataW Unit} {l l' : Lit → Bool} {m m' : Int} (h : Mx D l m) (h' : Mx D l' m') (hl : ∀ k, l k = false) (hl' : ∀ k, l' k = false) : m = m' := by
  have a : m ≤ m' := by
    rcases h.src with e | e
    · rw [e]; exact h'.ge
    · exact h'.ub _ e (hl' _)
  have b : m' ≤ m := by
    rcases h'.src with e | e
    · rw [e]; exact h.ge
    · exact h.ub _ e (hl _)
  omega
theorem Mx.start (D : DataW Unit) : Mx D (has D) 0 := ⟨Int.le_refl _, Or.inl rfl, fun k h1 h2 => by rw [h1] at h2; exact absurd h2 (by decide), fun _ h => h⟩
theorem Mx.step {D : DataW Unit} {l : Lit → Bool} {m : Int} (h : Mx D l m) {x : Int} (hx : 0 ≤ x) (hl : l (.int .u8 x) = true) : Mx D (fun z => l z && !z.sameKey (.int .u8 x)) (if m < x then x else m) := by
  have key : ∀ k, has D (.int .u8 k) = true → (l (.int .u8 k) && !(Lit.int .u8 k).sameKey (.int .u8 x)) = false → k ≤ m ∨ k = x := fun k h1 h2 => by
    cases h3 : l (.int .u8 k)
    · exact Or.inl (h.ub k h1 h3)
    · rw [h3] at h2
      simp [Lit.sameKey] at h2
      exact Or.inr h2
  have hs : ∀ kl, (l kl && !kl.sameKey (.int .u8 x)) = true → has D kl = true := fun kl hk => by
    rw [Bool.and_eq_true] at hk
    exact h.sub kl hk.1
  split
  · exact ⟨hx, Or.inr (h.sub _ hl), fun k h1 h2 => by rcases key k h1 h2 with e | e <;> omega, hs⟩
  · exact ⟨h.ge, h.src, fun k h1 h2 => by rcases key k h1 h2 with e | e <;> omega, hs⟩
/-- The number that a name gets. -/
noncomputable def mid (s : ByteArray) : Int := open Classical in if h : ∃ m, ∃ l, (∀ k, l k = false) ∧ Mx (idD s.toList) l m then h.choose else 0
theorem mid_eq {s : ByteArray} {l : Lit → Bool} {m : Int} (hl : ∀ k, l k = false) (h : Mx (idD s.toList) l m) : m = mid s := by
  unfold mid
  rw [dif_pos ⟨m, l, hl, h⟩]
  have hc := (⟨m, l, hl, h⟩ : ∃ m, ∃ l, (∀ k, l k = false) ∧ Mx (idD s.toList) l m)
  obtain ⟨l', hl', h'⟩ := hc.choose_spec
  exact h.same h' hl hl'
theorem mkMapI (w : World) : (Instr.makeMap 69 none).run Try.prog w = .ok (.map (some w.heap.size)) (w.alloc (.map #[] 0)) := by
  simp [Instr.makeMap]
set_option maxRecDepth 100000 in
set_option maxHeartbeats 4000000 in
theorem maxId (s : ByteArray) (w : World) : Calls Try.prog 18 #[.string s] w fun e w' => e = .returned (.int .u8 (mid s)) ∧ Below w.heap.size w w' := by
  have hmk := mkMapI
  have HM0 : Hid (Ids (w.alloc (.map #[] 0)) w.heap.size 0 (.map [])) := Lib.hid (World.ownsMap_made w _ _ _)
  go_enter Try.func18, Try.ntmps18
  go_wp2_with (first
    | (go_at_call 20; refine (stringToIds s _ _ HM0.out).mono ?_; rintro e w1 ⟨rfl, hm1, hg1⟩; have HM1 := Lib.hid hm1; have HB1 : Hid (Below w.heap.size w w1) := Lib.hid (((Below.refl _ w).alloc (Nat.le_refl _) _).trans (below_of_only hg1 (by simp) (Nat.le_refl _))); clear hm1 hg1)
    | (at_range; refine wpList_range_own _ rfl _ 69 rfl 5 72 lawI Try.underlying69 _ w.heap.size 20 _ rfl HM1.out ?_; intro w2 hrg hg2 hs2)
    | fail)
  have hb2 : Below w.heap.size w w2 := HB1.out.trans ⟨hg2.os, hg2.tape, hg2.output, hg2.size, fun k hk => hg2.block k (Nat.lt_of_lt_of_le hk HB1.out.size) (by simp)⟩
  have HB2 := Lib.hid hb2
  have HRG := Lib.hid hrg
  have h1s := HB1.out.size
  clear hrg hg2 hs2 hb2 hmk
  go_frame
  go_loopg [4] (size (idD s.toList)) (fun q a1 wr => ∃ (left : Lit → Bool) (m : Int), a1 = .int .u8 m ∧ Hid (wr.ranges Try.prog 5 (plainElem Try.prog 72) w.heap.size w1.heap.size 20 (idD s.toList) left q) ∧ Hid (Mx (idD s.toList) left m) ∧ Hid (Below w.heap.size w wr))
  case atStart => exact ⟨has (idD s.toList), 0, rfl, HRG, Lib.hid (Mx.start _), HB2⟩
  case round =>
    obtain ⟨left, m, rfl, HR, HX, HB⟩ := hrel
    go_wp2_with (first
      | (at_next; refine wpList_next_ranges_ii _ rfl _ rfl 5 72 .u8 .i8 lawI Try.underlying5 Try.underlying72 w.heap.size w1.heap.size 20 _ left _ rfl HR.out ?_ ?_)
      | fail)
    · intro hc0 hl0
      obtain rfl := mid_eq hl0 HX.out
      go_wp2_with fail
      go_ret
      exact ⟨rfl, HB.out⟩
    · intro x v w3 cnt' hwx hwv hlf hat hrg3 hlt hg3 hs3 hen
      have hx0 : 0 ≤ x := by
        simp [Lit.wf, IntKind.min, IntKind.max, IntKind.bits, IntKind.signed] at hwx
        omega
      have HR3 := Lib.hid hrg3
      have HX3 := Lib.hid (HX.out.step hx0 hlf)
      have HB3 := Lib.hid (HB.out.trans (below_of_only hg3 HB.out.size h1s))
      clear hrg3 hg3 hat hwx hwv hlf
      by_cases hmx : m < x
      · rw [if_pos hmx] at HX3
        go_wp2_with fail
        go_roundg cnt'
        case rel => exact ⟨_, _, rfl, HR3, HX3, HB3⟩
        case measure => exact hlt
      · rw [if_neg hmx] at HX3
        go_wp2_with fail
        go_roundg cnt'
        case rel => exact ⟨_, _, rfl, HR3, HX3, HB3⟩
        case measure => exact hlt
end Go.Proofs.Ytippmlajjkdblaa
