/- The walks of the laws on extractPathStyle (n011_105). -/
import Derived.Test.YtmcdkkekhdmpdaaRows
import Derived.WalkKit
import Derived.WalkLawsBesides
import Derived.OpenShut
import Derived.Outline
import Derived.Lib.Hide
import Derived.Laws.BitsAllLaws
namespace Go.Proofs.Ytmcdkkekhdmpdaa
open Go.RowKit
set_option linter.unusedVariables false
set_option linter.unusedSimpArgs false

theorem ret_bool {a b : Bool} (h : a = true ↔ b = true) : Ending.returned (.bool a) = .returned (.bool b) := by rw [Bool.eq_iff_iff.2 h]
/-- The style: 1 where the two sets meet. -/
def sty (a f : Int) : Int := if bits .and .u8 a f = 0 then 0 else 1
theorem sty_nat {a f : Nat} (ha : a < 256) (hf : f < 256) : sty a f = if a &&& f = 0 then 0 else 1 := by
  unfold sty; rw [u8_and_nat a f ha hf]
  by_cases h : a &&& f = 0
  · rw [h]; rfl
  · rw [if_neg (by omega), if_neg h]

theorem ext_any (a f : Int) (w : World) : Calls Try.prog 6 #[.int .u8 a, .int .u8 f] w fun e w' => e = .returned (.int .u8 (sty a f)) ∧ w = w' := by
  by_cases h : bits .and .u8 a f = 0
  · have hs : sty a f = 0 := by unfold sty; rw [if_pos h]
    rw [hs]
    clear hs
    go_enter Try.func6, Try.ntmps6
    go_wp2
    go_ret
    exact ⟨rfl, rfl⟩
  · have hs : sty a f = 1 := by unfold sty; rw [if_neg h]
    rw [hs]
    clear hs
    go_enter Try.func6, Try.ntmps6
    go_wp2
    go_ret
    exact ⟨rfl, rfl⟩
theorem zzExt_any (a f : Int) (w : World) : Calls Try.prog 5 #[.int .u8 a, .int .u8 f] w fun e w' => e = .returned (.int .u8 (sty a f)) ∧ w = w' := by
  go_enter Try.func5, Try.ntmps5
  go_wp2_with (go_at_call 6; refine (ext_any _ _ _).mono ?_; rintro e w' ⟨rfl, rfl⟩)
  go_ret
  exact ⟨rfl, rfl⟩
theorem and_or_ne {a f b : Nat} (h : ¬ a &&& f = 0) : ¬ (a ||| b) &&& f = 0 := by
  intro h2
  apply h
  apply Nat.eq_of_testBit_eq
  intro i
  have := congrArg (fun n => n.testBit i) h2
  simp only [Nat.testBit_and, Nat.testBit_or, Nat.zero_testBit] at this ⊢
  cases ha : a.testBit i <;> cases hf : f.testBit i <;> simp_all
theorem and_clear {a f b : Nat} (h : a &&& f = 0) : (a &&& b) &&& f = 0 := by
  rw [Nat.and_assoc, Nat.and_comm b f, ← Nat.and_assoc, h, Nat.zero_and]
theorem facts (a f b : Nat) (ha : a < 256) (hf : f < 256) (hb : b < 256) : sty f a = sty a f ∧ (sty a f = 1 → sty (bits .or .u8 a b) f = 1 ∧ sty a (bits .or .u8 f b) = 1) ∧ (sty a f = 0 → sty (bits .andNot .u8 a b) f = 0) ∧ sty 0 f = 0 ∧ sty a 0 = 0 ∧ (a ≠ 0 → sty a a = 1) ∧ (sty a f = 0 ∨ sty a f = 1) := by
  have hor : (a ||| b) < 256 := Nat.or_lt_two_pow (n := 8) ha hb
  have hor2 : (f ||| b) < 256 := Nat.or_lt_two_pow (n := 8) hf hb
  have han : (a &&& (255 - b)) < 256 := Nat.lt_of_le_of_lt Nat.and_le_left ha
  rw [u8_or_nat a b ha hb, u8_or_nat f b hf hb, u8_andNot_nat a b ha hb]
  have e0 : (0 : Int) = ((0 : Nat) : Int) := rfl
  rw [sty_nat hf ha, sty_nat ha hf, sty_nat hor hf, sty_nat ha hor2, sty_nat han hf, sty_nat ha ha]
  have s0 : sty 0 (f : Int) = 0 := by rw [e0, sty_nat (by decide) hf, Nat.zero_and]; rfl
  have s1 : sty (a : Int) 0 = 0 := by rw [e0, sty_nat ha (by decide), Nat.and_zero]; rfl
  refine ⟨by rw [Nat.and_comm], fun h => ?_, fun h => ?_, s0, s1, fun h => ?_, ?_⟩
  · have hn : ¬ a &&& f = 0 := by intro hh; rw [if_pos hh] at h; cases h
    refine ⟨by rw [if_neg (and_or_ne hn)], ?_⟩
    rw [if_neg]
    rw [Nat.and_comm]
    exact and_or_ne (by rw [Nat.and_comm]; exact hn)
  · have hn : a &&& f = 0 := by
      by_cases hh : a &&& f = 0
      · exact hh
      · rw [if_neg hh] at h; cases h
    rw [if_pos (and_clear hn)]
  · rw [Nat.and_self, if_neg h]
  · by_cases hh : a &&& f = 0
    · left; rw [if_pos hh]
    · right; rw [if_neg hh]

set_option maxRecDepth 100000 in
set_option maxHeartbeats 1000000 in
theorem fnExtractPathStyleSymmetricMonotone.walk (a0 : Int) (w0 : (Lit.int .u8 a0).wf = true) (a1 : Int) (w1 : (Lit.int .u8 a1).wf = true) (a2 : Int) (w2 : (Lit.int .u8 a2).wf = true) (w : World) : Calls Try.prog 4 #[.int .u8 a0, .int .u8 a1, .int .u8 a2] w fun e w' => e = .returned (.bool true) ∧ Below w.heap.size w w' := by
  obtain ⟨l0, u0⟩ := bounds_u8 w0
  obtain ⟨l1, u1⟩ := bounds_u8 w1
  obtain ⟨l2, u2⟩ := bounds_u8 w2
  clear w0 w1 w2
  obtain ⟨m0, e0⟩ : ∃ m : Nat, a0 = (m : Int) := ⟨a0.toNat, by omega⟩
  obtain ⟨m1, e1⟩ : ∃ m : Nat, a1 = (m : Int) := ⟨a1.toNat, by omega⟩
  obtain ⟨m2, e2⟩ : ∃ m : Nat, a2 = (m : Int) := ⟨a2.toNat, by omega⟩
  obtain ⟨f1, f2, f3, f4, f5, f6, f7⟩ := facts m0 m1 m2 (by omega) (by omega) (by omega)
  rw [← e0, ← e1] at f1 f2 f3 f7
  rw [← e2] at f2 f3
  rw [← e1] at f4
  rw [← e0] at f5 f6
  have g1 : sty 1 2 = 0 := by decide
  have g2 : sty (bits .or .u8 1 4) 2 = 0 := by decide
  have g3 : sty 5 2 = 0 := by decide
  have g4 : sty 7 2 = 1 := by decide
  have g5 : sty (bits .or .u8 (bits .or .u8 1 2) 4) 2 = 1 := by decide
  have f6' : a0 ≠ 0 → sty a0 a0 = 1 := fun h => f6 (by omega)
  clear e0 e1 e2 f6
  by_cases h0 : a0 = 0
  · have hb0 : (a0 == 0) = true := by simpa using h0
    have hb1 : (a0 != 0) = false := by simpa using h0
    clear f6' h0
    rcases f7 with h | h
    · have f3' := f3 h
      rw [h] at f1
      clear f2 f3
      go_enter Try.func4, Try.ntmps4
      go_wp2_with (go_at_call 5; refine (zzExt_any _ _ _).mono ?_; rintro e w' ⟨rfl, rfl⟩)
      go_ret
      exact ⟨rfl, Below.refl _ _⟩
    · obtain ⟨q1, q2⟩ := f2 h
      rw [h] at f1
      clear f2 f3
      go_enter Try.func4, Try.ntmps4
      go_wp2_with (go_at_call 5; refine (zzExt_any _ _ _).mono ?_; rintro e w' ⟨rfl, rfl⟩)
      go_ret
      exact ⟨rfl, Below.refl _ _⟩
  · have f6 := f6' h0
    have hb0 : (a0 == 0) = false := by simpa using h0
    have hb1 : (a0 != 0) = true := by simpa using h0
    clear f6' h0
    rcases f7 with h | h
    · have f3' := f3 h
      rw [h] at f1
      clear f2 f3
      go_enter Try.func4, Try.ntmps4
      go_wp2_with (go_at_call 5; refine (zzExt_any _ _ _).mono ?_; rintro e w' ⟨rfl, rfl⟩)
      go_ret
      exact ⟨rfl, Below.refl _ _⟩
    · obtain ⟨q1, q2⟩ := f2 h
      rw [h] at f1
      clear f2 f3
      go_enter Try.func4, Try.ntmps4
      go_wp2_with (go_at_call 5; refine (zzExt_any _ _ _).mono ?_; rintro e w' ⟨rfl, rfl⟩)
      go_ret
      exact ⟨rfl, Below.refl _ _⟩

def cb (a f k : Nat) : Bool := (List.range k).any fun j => a.testBit j && f.testBit j
theorem cb_succ (a f k : Nat) : cb a f (k + 1) = (cb a f k || (a.testBit k && f.testBit k)) := by
  unfold cb; rw [List.range_succ, List.any_append]; simp
theorem cb_all {a f : Nat} (ha : a < 256) (hf : f < 256) : cb a f 8 = decide (sty a f = 1) := by
  rw [sty_nat ha hf, Bool.eq_iff_iff]
  unfold cb
  simp only [List.any_eq_true, List.mem_range, Bool.and_eq_true, decide_eq_true_eq]
  constructor
  · rintro ⟨j, hj, h1, h2⟩
    rw [if_neg]
    intro h
    have := congrArg (fun n => n.testBit j) h
    simp [h1, h2] at this
  · intro h
    have hne : ¬ a &&& f = 0 := by intro hh; rw [if_pos hh] at h; cases h
    obtain ⟨j, hj⟩ := Nat.exists_testBit_of_ne_zero hne
    rw [Nat.testBit_and, Bool.and_eq_true] at hj
    refine ⟨j, ?_, hj.1, hj.2⟩
    by_cases hlt : j < 8
    · exact hlt
    · have : a.testBit j = false := Nat.testBit_lt_two_pow (Nat.lt_of_lt_of_le ha (show 2 ^ 8 ≤ 2 ^ j from Nat.pow_le_pow_right (by decide) (by omega)))
      rw [this] at hj; cases hj.1
theorem bit_at {a k : Nat} (ha : a < 256) : bits .and .u8 ((a : Int) / 2 ^ k) 1 = if a.testBit k then 1 else 0 := by
  have e : (a : Int) / 2 ^ k = ((a / 2 ^ k : Nat) : Int) := by rw [Int.natCast_ediv, Int.natCast_pow]; rfl
  have hl : a / 2 ^ k < 256 := Nat.lt_of_le_of_lt (Nat.div_le_self _ _) ha
  rw [e]
  have h := u8_and_nat (a / 2 ^ k) 1 hl (by decide)
  have e2 : ((1 : Nat) : Int) = 1 := rfl
  rw [e2] at h
  rw [h, nat_mask1, Nat.testBit_eq_decide_div_mod_eq]
  have : a / 2 ^ k % 2 = 0 ∨ a / 2 ^ k % 2 = 1 := by omega
  rcases this with h | h <;> rw [h] <;> rfl

theorem fnExtractPathStyleBitModel.walk (a0 : Int) (w0 : (Lit.int .u8 a0).wf = true) (a1 : Int) (w1 : (Lit.int .u8 a1).wf = true) (w : World) : Calls Try.prog 3 #[.int .u8 a0, .int .u8 a1] w fun e w' => e = .returned (.bool true) ∧ Below w.heap.size w w' := by
  obtain ⟨l0, u0⟩ := bounds_u8 w0
  obtain ⟨l1, u1⟩ := bounds_u8 w1
  clear w0 w1
  obtain ⟨m0, rfl⟩ : ∃ m : Nat, a0 = (m : Int) := ⟨a0.toNat, by omega⟩
  obtain ⟨m1, rfl⟩ : ∃ m : Nat, a1 = (m : Int) := ⟨a1.toNat, by omega⟩
  go_enter Try.func3, Try.ntmps3
  go_wp2
  go_loop [5, 6] (fun c i => ∃ k : Nat, k ≤ 8 ∧ i = .int .u64 k ∧ c = .bool (cb m0 m1 k)) (fun _ i => 8 - (intOf i).toNat)
  case atStart => exact ⟨0, by omega, rfl, rfl⟩
  case round =>
    obtain ⟨k, hk, rfl, rfl⟩ := hrel
    by_cases hlt : k < 8
    · have b0 := bit_at (a := m0) (k := k) (by omega)
      have b1 := bit_at (a := m1) (k := k) (by omega)
      have hc := Lib.hid (cb_succ m0 m1 k)
      cases t0 : m0.testBit k <;> cases t1 : m1.testBit k <;> rw [t0] at b0 <;> rw [t1] at b1 <;> simp only [if_true, if_false, Bool.false_eq_true] at b0 b1
      all_goals
        go_wp2
        go_round
        case rel => exact ⟨k + 1, by omega, by go_num, by rw [hc.out, t0, t1]; simp⟩
        case measure => simp [intOf]; omega
    · obtain rfl : k = 8 := by omega
      have hc := cb_all (a := m0) (f := m1) (by omega) (by omega)
      have f7 := (facts m0 m1 0 (by omega) (by omega) (by omega)).2.2.2.2.2.2
      rcases f7 with h | h
      all_goals
        rw [h] at hc
        simp only [decide_true, decide_false, Int.reduceEq] at hc
        go_wp2_with (go_at_call 5; refine (zzExt_any _ _ _).mono ?_; rintro e w' ⟨rfl, rfl⟩)
        go_ret
        exact ⟨rfl, Below.refl _ _⟩

end Go.Proofs.Ytmcdkkekhdmpdaa
