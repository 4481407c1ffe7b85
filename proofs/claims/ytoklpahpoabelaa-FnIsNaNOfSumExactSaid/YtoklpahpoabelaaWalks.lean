/- The walks of the laws of n011_51: each returns true and writes nothing that was there. -/
import Derived.Test.YtoklpahpoabelaaF64M
import Derived.OpenShut
import Derived.Lib.Hide
namespace Go.Proofs.Ytoklpahpoabelaa
open Go.RowKit Go.Fl

theorem nanModel (x : Nat) (w : World) : Calls Try.prog 9 #[.float .f64 x] w fun e w' => e = .returned (.bool (nan x)) ∧ w' = w := by
  cases h : nan x
  · rcases (show key x < 0 ∨ key x = 0 ∨ 0 < key x by omega) with h1 | h1 | h1
    all_goals
      go_enter Try.func9, Try.ntmps9
      go_wp2
      go_ret
      exact ⟨rfl, rfl⟩
  · go_enter Try.func9, Try.ntmps9
    go_wp2
    go_ret
    exact ⟨rfl, rfl⟩

theorem sameFloat (x y : Nat) (hx : x < 2 ^ 64) (hy : y < 2 ^ 64) (w : World) : Calls Try.prog 10 #[.float .f64 x, .float .f64 y] w fun e w' => e = .returned (.bool (sameB x y)) ∧ Below w.heap.size w w' := by
  rcases same_cases hx hy with ⟨h1, h2, h3⟩ | ⟨h1, h2, h3⟩ | ⟨h1, h2, h3⟩ | ⟨h1, h2, h4, h5, h3⟩ | ⟨h1, h2, h4, h5, h3⟩ | ⟨h1, h2, h4, h5, rfl⟩ | ⟨h1, h2, h4, h5, rfl⟩ | ⟨h1, h2, h4, h5, h6, h7, h3⟩ | ⟨h1, h2, h4, h5, h6, h7, h3⟩ | ⟨h1, h2, h4, h5, h6, h7, h3⟩ | ⟨h1, h2, h4, h5, h6, h7, h3⟩
  all_goals
    first | rw [h3] | rw [sameB_self]
    clear hx
    try clear hy
    go_enter Try.func10, Try.ntmps10
    go_wp2_with (go_at_call 9; refine (nanModel _ _).mono ?_; rintro e w' ⟨rfl, rfl⟩)
    go_ret
    refine ⟨rfl, ?_⟩
    repeat' (first | exact Below.refl _ _ | refine Below.alloc ?_ ?_ _ | refine Below.setCell ?_ ?_ _ | refine below_drewN ?_ _ | refine Below.trans ?_ (hb.mono ?_) | (simp <;> omega) | omega)

theorem fnIsNaNExact.walk (a0 : Nat) (_w0 : a0 < 2 ^ 64) (w : World) : Calls Try.prog 3 #[.float .f64 a0] w fun e w' => e = .returned (.bool true) ∧ Below w.heap.size w w' := by
  go_enter Try.func3, Try.ntmps3
  go_wp2_with (first | (go_at_call 7; refine (newF64 _ _).mono ?_; rintro e w' ⟨rfl, rfl⟩) | (go_at_call 8; refine (isNaN _ _).mono ?_; rintro e w' ⟨rfl, rfl⟩) | (go_at_call 9; refine (nanModel _ _).mono ?_; rintro e w' ⟨rfl, rfl⟩))
  go_ret
  refine ⟨by simp, ?_⟩
  repeat' (first | exact Below.refl _ _ | refine Below.alloc ?_ ?_ _ | refine Below.setCell ?_ ?_ _ | refine below_drewN ?_ _ | refine Below.trans ?_ (hb.mono ?_) | (simp <;> omega) | omega)

theorem fnNewF64ValueRoundTrip.walk (a0 : Nat) (w0 : a0 < 2 ^ 64) (w : World) : Calls Try.prog 4 #[.float .f64 a0] w fun e w' => e = .returned (.bool true) ∧ Below w.heap.size w w' := by
  have hs := sameB_self a0
  go_enter Try.func4, Try.ntmps4
  go_wp2_with (first | (go_at_call 7; refine (newF64 _ _).mono ?_; rintro e w' ⟨rfl, rfl⟩) | (go_at_call 11; refine (value _ _).mono ?_; rintro e w' ⟨rfl, rfl⟩) | (go_at_call 10; refine (sameFloat _ _ w0 w0 _).mono ?_; rintro e w' ⟨rfl, hb⟩))
  go_ret
  refine ⟨by simp, ?_⟩
  repeat' (first | exact Below.refl _ _ | refine Below.alloc ?_ ?_ _ | refine Below.setCell ?_ ?_ _ | refine below_drewN ?_ _ | refine Below.trans ?_ (hb.mono ?_) | (simp <;> omega) | omega)

theorem isInf_pos (x : Nat) (w : World) : Calls Try.prog 13 #[.float .f64 x, .int .i64 1] w fun e w' => e = .returned (.bool (!nan x && decide (9218868437227405311 < key x))) ∧ w = w' := by
  have n1 : nan 9218868437227405311 = false := by decide
  have k1 : key 9218868437227405311 = 9218868437227405311 := by decide
  go_enter Try.func13, Try.ntmps13
  go_wp2
  go_ret
  exact ⟨rfl, rfl⟩
theorem isInf_neg (x : Nat) (w : World) : Calls Try.prog 13 #[.float .f64 x, .int .i64 (-1)] w fun e w' => e = .returned (.bool (!nan x && decide (key x < -9218868437227405311))) ∧ w = w' := by
  have n1 : nan 18442240474082181119 = false := by decide
  have k1 : key 18442240474082181119 = -9218868437227405311 := by decide
  go_enter Try.func13, Try.ntmps13
  go_wp2
  go_ret
  exact ⟨rfl, rfl⟩

theorem sumNaN {x y r : Nat} (h : FR .add x y r) : nan r = (nan x || nan y || (!nan x && decide (9218868437227405311 < key x)) && (!nan y && decide (key y < -9218868437227405311)) || (!nan x && decide (key x < -9218868437227405311)) && (!nan y && decide (9218868437227405311 < key y))) := by
  have e := h.add_nan
  cases nx : nan x
  · cases ny : nan y
    · rw [nx, ny] at e
      have rx : rung x ≤ infR := by simpa [nan] using nx
      have ry : rung y ≤ infR := by simpa [nan] using ny
      have hx : (9218868437227405311 < key x ↔ rung x = infR ∧ neg x = false) ∧ (key x < -9218868437227405311 ↔ rung x = infR ∧ neg x = true) := by
        unfold key; unfold infR at *; cases neg x <;> simp <;> omega
      have hy : (9218868437227405311 < key y ↔ rung y = infR ∧ neg y = false) ∧ (key y < -9218868437227405311 ↔ rung y = infR ∧ neg y = true) := by
        unfold key; unfold infR at *; cases neg y <;> simp <;> omega
      rw [Bool.eq_iff_iff, e]
      simp [hx.1, hx.2, hy.1, hy.2]
      cases neg x <;> cases neg y <;> simp
    · simp [e.2 (.inr (.inl ny))]
  · simp [e.2 (.inl nx)]

theorem fnIsNaNOfSumExact.walk (a0 : Nat) (_w0 : a0 < 2 ^ 64) (a1 : Nat) (_w1 : a1 < 2 ^ 64) (w : World) : Calls Try.prog 5 #[.float .f64 a0, .float .f64 a1] w fun e w' => e = .returned (.bool true) ∧ Below w.heap.size w w' := by
  cases h1 : nan a0
  · cases h2 : nan a1
    · rcases (show 9218868437227405311 < key a0 ∨ key a0 < -9218868437227405311 ∨ (key a0 ≤ 9218868437227405311 ∧ -9218868437227405311 ≤ key a0) by omega) with h3 | h3 | ⟨h3, h4⟩
      all_goals
        rcases (show 9218868437227405311 < key a1 ∨ key a1 < -9218868437227405311 ∨ (key a1 ≤ 9218868437227405311 ∧ -9218868437227405311 ≤ key a1) by omega) with h5 | h5 | ⟨h5, h6⟩
        all_goals
          go_enter Try.func5, Try.ntmps5
          go_wp2_with (first | (go_at_call 7; refine (newF64 _ _).mono ?_; rintro e w' ⟨rfl, rfl⟩) | (go_at_call 12; refine (addF _ _ _).mono ?_; rintro e w' ⟨r, hr, rfl, hb⟩) | (go_at_call 8; refine (isNaN _ _).mono ?_; rintro e w' ⟨rfl, rfl⟩) | (go_at_call 9; refine (nanModel _ _).mono ?_; rintro e w' ⟨rfl, rfl⟩) | (go_at_call 13; first | (with_reducible refine (isInf_pos _ _).mono ?_) | (with_reducible refine (isInf_neg _ _).mono ?_)); rintro e w' ⟨rfl, rfl⟩)
          go_ret
          have hn := sumNaN hr
          refine ⟨ret_bool ?_, ?_⟩
          · rw [hn]; simp [h1, h2] <;> first | omega | (rw [Bool.eq_iff_iff]; simp <;> omega)
          have hz := hb.size
          simp at hz
          repeat' (first | exact Below.refl _ _ | refine Below.alloc ?_ ?_ _ | refine Below.setCell ?_ ?_ _ | refine below_drewN ?_ _ | refine Below.trans ?_ (hb.mono ?_) | (simp <;> omega) | omega)
    · go_enter Try.func5, Try.ntmps5
      go_wp2_with (first | (go_at_call 7; refine (newF64 _ _).mono ?_; rintro e w' ⟨rfl, rfl⟩) | (go_at_call 12; refine (addF _ _ _).mono ?_; rintro e w' ⟨r, hr, rfl, hb⟩) | (go_at_call 8; refine (isNaN _ _).mono ?_; rintro e w' ⟨rfl, rfl⟩) | (go_at_call 9; refine (nanModel _ _).mono ?_; rintro e w' ⟨rfl, rfl⟩) | (go_at_call 13; first | (with_reducible refine (isInf_pos _ _).mono ?_) | (with_reducible refine (isInf_neg _ _).mono ?_)); rintro e w' ⟨rfl, rfl⟩)
      go_ret
      have hn := sumNaN hr
      refine ⟨ret_bool (by rw [hn]; simp [h1, h2]), ?_⟩
      have hz := hb.size
      simp at hz
      repeat' (first | exact Below.refl _ _ | refine Below.alloc ?_ ?_ _ | refine Below.setCell ?_ ?_ _ | refine below_drewN ?_ _ | refine Below.trans ?_ (hb.mono ?_) | (simp <;> omega) | omega)
  · go_enter Try.func5, Try.ntmps5
    go_wp2_with (first | (go_at_call 7; refine (newF64 _ _).mono ?_; rintro e w' ⟨rfl, rfl⟩) | (go_at_call 12; refine (addF _ _ _).mono ?_; rintro e w' ⟨r, hr, rfl, hb⟩) | (go_at_call 8; refine (isNaN _ _).mono ?_; rintro e w' ⟨rfl, rfl⟩) | (go_at_call 9; refine (nanModel _ _).mono ?_; rintro e w' ⟨rfl, rfl⟩) | (go_at_call 13; first | (with_reducible refine (isInf_pos _ _).mono ?_) | (with_reducible refine (isInf_neg _ _).mono ?_)); rintro e w' ⟨rfl, rfl⟩)
    go_ret
    have hn := sumNaN hr
    refine ⟨ret_bool (by rw [hn]; simp [h1]), ?_⟩
    have hz := hb.size
    simp at hz
    repeat' (first | exact Below.refl _ _ | refine Below.alloc ?_ ?_ _ | refine Below.setCell ?_ ?_ _ | refine below_drewN ?_ _ | refine Below.trans ?_ (hb.mono ?_) | (simp <;> omega) | omega)

def hexB (c : Int) : Bool := decide (48 ≤ c ∧ c ≤ 57 ∨ 97 ≤ c ∧ c ≤ 102 ∨ 65 ≤ c ∧ c ≤ 70)

theorem isHex_any (c : Int) (h0 : 0 ≤ c) (h1 : c ≤ 255) (w : World) : Calls Try.prog 16 #[.int .u8 c] w fun e w' => e = .returned (.bool (hexB c)) ∧ w = w' := by
  rcases (show c < 48 ∨ (48 ≤ c ∧ c ≤ 57) ∨ (58 ≤ c ∧ c ≤ 64) ∨ (65 ≤ c ∧ c ≤ 70) ∨ (71 ≤ c ∧ c ≤ 96) ∨ (97 ≤ c ∧ c ≤ 102) ∨ 103 ≤ c by omega) with h | ⟨h, k⟩ | ⟨h, k⟩ | ⟨h, k⟩ | ⟨h, k⟩ | ⟨h, k⟩ | h
  all_goals
    go_enter Try.func16, Try.ntmps16
    go_wp2
    go_ret
    refine ⟨ret_bool ?_, rfl⟩
    unfold hexB
    simp <;> omega

theorem zzIsHex_any (c : Int) (h0 : 0 ≤ c) (h1 : c ≤ 255) (w : World) : Calls Try.prog 14 #[.int .u8 c] w fun e w' => e = .returned (.bool (hexB c)) ∧ w = w' := by
  go_enter Try.func14, Try.ntmps14
  go_wp2_with (go_at_call 16; refine (isHex_any _ h0 h1 _).mono ?_; rintro e w' ⟨rfl, rfl⟩)
  go_ret
  exact ⟨rfl, rfl⟩

theorem xor_up' (a : Int) (h : 65 ≤ a) (k : a ≤ 90) : bits BinOp.xor IntKind.u8 a 32 = a + 32 ∧ hexB a = hexB (a + 32) := by
  have e1 : ∀ n : Fin 26, bits BinOp.xor IntKind.u8 (65 + (n.val : Int)) 32 = 65 + (n.val : Int) + 32 := by decide +kernel
  have e2 : ∀ n : Fin 26, hexB (65 + (n.val : Int)) = hexB (65 + (n.val : Int) + 32) := by decide +kernel
  obtain ⟨n, hn, rfl⟩ : ∃ n : Nat, n < 26 ∧ a = 65 + (n : Int) := ⟨(a - 65).toNat, by omega, by omega⟩
  exact ⟨e1 ⟨n, hn⟩, e2 ⟨n, hn⟩⟩
theorem xor_down' (a : Int) (h : 97 ≤ a) (k : a ≤ 122) : bits BinOp.xor IntKind.u8 a 32 = a - 32 ∧ hexB a = hexB (a - 32) := by
  have e1 : ∀ n : Fin 26, bits BinOp.xor IntKind.u8 (97 + (n.val : Int)) 32 = 97 + (n.val : Int) - 32 := by decide +kernel
  have e2 : ∀ n : Fin 26, hexB (97 + (n.val : Int)) = hexB (97 + (n.val : Int) - 32) := by decide +kernel
  obtain ⟨n, hn, rfl⟩ : ∃ n : Nat, n < 26 ∧ a = 97 + (n : Int) := ⟨(a - 97).toNat, by omega, by omega⟩
  exact ⟨e1 ⟨n, hn⟩, e2 ⟨n, hn⟩⟩
theorem fnIsHexCaseFoldAndAsciiOnly.walk (a0 : Int) (w0 : (Lit.int .u8 a0).wf = true) (w : World) : Calls Try.prog 6 #[.int .u8 a0] w fun e w' => e = .returned (.bool true) ∧ Below w.heap.size w w' := by
  obtain ⟨h0, h1⟩ := bounds_u8 w0
  clear w0
  rcases (show 128 ≤ a0 ∨ (a0 < 65 ∨ (91 ≤ a0 ∧ a0 ≤ 96) ∨ (123 ≤ a0 ∧ a0 < 128)) ∨ (65 ≤ a0 ∧ a0 ≤ 90) ∨ (97 ≤ a0 ∧ a0 ≤ 122) by omega) with h | h | ⟨h, k⟩ | ⟨h, k⟩
  · have hh : hexB a0 = false := by unfold hexB; simp; omega
    go_enter Try.func6, Try.ntmps6
    go_wp2_with (go_at_call 14; refine (zzIsHex_any _ h0 h1 _).mono ?_; rintro e w' ⟨rfl, rfl⟩)
    go_ret
    exact ⟨rfl, Below.refl _ _⟩
  · obtain ⟨b1, d1⟩ : ∃ b, decide (65 ≤ a0) = b := ⟨_, rfl⟩
    obtain ⟨b2, d2⟩ : ∃ b, decide (a0 ≤ 90) = b := ⟨_, rfl⟩
    obtain ⟨b3, d3⟩ : ∃ b, decide (97 ≤ a0) = b := ⟨_, rfl⟩
    obtain ⟨b4, d4⟩ : ∃ b, decide (a0 ≤ 122) = b := ⟨_, rfl⟩
    rcases h with h | ⟨h, k⟩ | ⟨h, k⟩
    · obtain rfl : b1 = false := by rw [← d1]; simp; omega
      obtain rfl : b3 = false := by rw [← d3]; simp; omega
      go_enter Try.func6, Try.ntmps6
      go_wp2
      go_ret
      exact ⟨rfl, Below.refl _ _⟩
    · obtain rfl : b1 = true := by rw [← d1]; simp; omega
      obtain rfl : b2 = false := by rw [← d2]; simp; omega
      obtain rfl : b3 = false := by rw [← d3]; simp; omega
      go_enter Try.func6, Try.ntmps6
      go_wp2
      go_ret
      exact ⟨rfl, Below.refl _ _⟩
    · obtain rfl : b1 = true := by rw [← d1]; simp; omega
      obtain rfl : b2 = false := by rw [← d2]; simp; omega
      obtain rfl : b3 = true := by rw [← d3]; simp; omega
      obtain rfl : b4 = false := by rw [← d4]; simp; omega
      go_enter Try.func6, Try.ntmps6
      go_wp2
      go_ret
      exact ⟨rfl, Below.refl _ _⟩
  · obtain ⟨e, hh⟩ := xor_up' a0 h k
    have HH := Lib.hid hh
    clear hh
    have d1 : decide (65 ≤ a0) = true := by simp; omega
    have d2 : decide (a0 ≤ 90) = true := by simp; omega
    go_enter Try.func6, Try.ntmps6
    go_wp2_with (go_at_call 14; refine (zzIsHex_any _ (by omega) (by omega) _).mono ?_; rintro e w' ⟨rfl, rfl⟩)
    go_ret
    exact ⟨ret_bool (by simp [HH.out]), Below.refl _ _⟩
  · obtain ⟨e, hh⟩ := xor_down' a0 h k
    have HH := Lib.hid hh
    clear hh
    have d1 : decide (65 ≤ a0) = true := by simp; omega
    have d2 : decide (a0 ≤ 90) = false := by simp; omega
    have d3 : decide (97 ≤ a0) = true := by simp; omega
    have d4 : decide (a0 ≤ 122) = true := by simp; omega
    go_enter Try.func6, Try.ntmps6
    go_wp2_with (go_at_call 14; refine (zzIsHex_any _ (by omega) (by omega) _).mono ?_; rintro e w' ⟨rfl, rfl⟩)
    go_ret
    exact ⟨ret_bool (by simp [HH.out]), Below.refl _ _⟩
end Go.Proofs.Ytoklpahpoabelaa
