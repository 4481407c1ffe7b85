/- Swap. -/
import Derived.Test.YtippmlajjkdblaaPb
namespace Go.Proofs.Ytippmlajjkdblaa
open Go.RowKit
set_option linter.unusedVariables false
set_option linter.unusedSimpArgs false
set_option maxRecDepth 100000 in
set_option maxHeartbeats 4000000 in
theorem swap (g n c i j : Nat) (x y : Int) (Q : Nat → Grp) (w : World) (h : MRow w g n Q) (hx : x = i) (hy : y = j) (hi : i < n) (hj : j < n) (hn : n ≤ 1048576) :
    Calls Try.prog 46 #[.slice (some ⟨g, 0, none⟩) n c, .int .i64 x, .int .i64 y] w fun e w' => e = .returned (.tuple #[]) ∧ MRow w' g n (swQ Q i j) ∧ w.grownBy w' (some g) := by
  subst hx hy
  have HM := Lib.hid ((h.put i (Q j)).put j (Q i)).drew
  have HG := Lib.hid (only_drew (only_put8 (only_put8 (World.grownBy.refl w (some g)) (i * 8) (Q j)) (j * 8) (Q i)))
  have hlt := h.lt
  have a0 := h.cell hi (j := 0) (by decide)
  have a1 := h.cell hi (j := 1) (by decide)
  have a2 := h.cell hi (j := 2) (by decide)
  have a3 := h.cell hi (j := 3) (by decide)
  have a4 := h.cell hi (j := 4) (by decide)
  have a5 := h.cell hi (j := 5) (by decide)
  have a6 := h.cell hi (j := 6) (by decide)
  have a7 := h.cell hi (j := 7) (by decide)
  have b0 := h.cell hj (j := 0) (by decide)
  have b1 := h.cell hj (j := 1) (by decide)
  have b2 := h.cell hj (j := 2) (by decide)
  have b3 := h.cell hj (j := 3) (by decide)
  have b4 := h.cell hj (j := 4) (by decide)
  have b5 := h.cell hj (j := 5) (by decide)
  have b6 := h.cell hj (j := 6) (by decide)
  have b7 := h.cell hj (j := 7) (by decide)
  have p0 := h.frozen (i * 8)
  have r0 := h.frozen (j * 8)
  have p1 := h.frozen (i * 8 + 1)
  have r1 := h.frozen (j * 8 + 1)
  have p2 := h.frozen (i * 8 + 2)
  have r2 := h.frozen (j * 8 + 2)
  have p3 := h.frozen (i * 8 + 3)
  have r3 := h.frozen (j * 8 + 3)
  have p4 := h.frozen (i * 8 + 4)
  have r4 := h.frozen (j * 8 + 4)
  have p5 := h.frozen (i * 8 + 5)
  have r5 := h.frozen (j * 8 + 5)
  have p6 := h.frozen (i * 8 + 6)
  have r6 := h.frozen (j * 8 + 6)
  have p7 := h.frozen (i * 8 + 7)
  have r7 := h.frozen (j * 8 + 7)
  clear h
  unfold swQ
  generalize hqf : updQ (updQ Q i (Q j)) j (Q i) = Qf at *
  clear hqf
  simp only [gcells, List.getElem?_cons_zero, List.getElem?_cons_succ, Nat.add_zero] at a0 a1 a2 a3 a4 a5 a6 a7 b0 b1 b2 b3 b4 b5 b6 b7
  by_cases hij : i = j
  · subst hij
    clear b0 b1 b2 b3 b4 b5 b6 b7 r0 r1 r2 r3 r4 r5 r6 r7
    generalize Q i = q at *
    obtain ⟨A, m, cc, p, l, t, kind, id⟩ := q
    cases l with
    | none =>
      simp only [locv] at a3
      go_enter Try.func46, Try.ntmps46
      go_wp2_with fail
      go_region_with (fail)
      all_goals go_end0
      all_goals exact ⟨rfl, HM.out, HG.out⟩
    | some l =>
      simp only [locv] at a3
      go_enter Try.func46, Try.ntmps46
      go_wp2_with fail
      go_region_with (fail)
      all_goals go_end0
      all_goals exact ⟨rfl, HM.out, HG.out⟩
  · have n00 : ¬ i * 8 = j * 8 := by omega
    have n00' : ¬ j * 8 = i * 8 := by omega
    generalize Q i = q at *
    generalize Q j = q' at *
    obtain ⟨A, m, cc, p, l, t, kind, id⟩ := q
    obtain ⟨A', m', cc', p', l', t', kind', id'⟩ := q'
    cases l with
    | none =>
      simp only [locv] at a3
      cases l' with
      | none =>
        simp only [locv] at b3
        go_enter Try.func46, Try.ntmps46
        go_wp2_with fail
        go_region_with (fail)
        all_goals go_end0
        all_goals exact ⟨rfl, HM.out, HG.out⟩
      | some l' =>
        simp only [locv] at b3
        go_enter Try.func46, Try.ntmps46
        go_wp2_with fail
        go_region_with (fail)
        all_goals go_end0
        all_goals exact ⟨rfl, HM.out, HG.out⟩
    | some l =>
      simp only [locv] at a3
      cases l' with
      | none =>
        simp only [locv] at b3
        go_enter Try.func46, Try.ntmps46
        go_wp2_with fail
        go_region_with (fail)
        all_goals go_end0
        all_goals exact ⟨rfl, HM.out, HG.out⟩
      | some l' =>
        simp only [locv] at b3
        go_enter Try.func46, Try.ntmps46
        go_wp2_with fail
        go_region_with (fail)
        all_goals go_end0
        all_goals exact ⟨rfl, HM.out, HG.out⟩
end Go.Proofs.Ytippmlajjkdblaa
