import Derived.Test.YtgaodnflifkaiaaDoorSm
import Derived.Laws.Externs
import Derived.Laws.Shifts
import Derived.BigQuiet
namespace Go.Proofs.YtgaodnflifkaiaaDoor
open Go.RowKit Go.Fl
set_option linter.unusedVariables false
set_option linter.unusedSimpArgs false
attribute [local go_sem ↓] Go.wp_at_zero Go.wp_at_succ

/-- The middle column of a long product, and its upper word. -/
def mulT (x y : Int) : Int := IntKind.u64.wrap (IntKind.u64.wrap (x / 4294967296 * bits BinOp.and IntKind.u64 y 4294967295) + IntKind.u64.wrap (bits BinOp.and IntKind.u64 x 4294967295 * bits BinOp.and IntKind.u64 y 4294967295) / 4294967296)
def mulHi (x y : Int) : Int := IntKind.u64.wrap (IntKind.u64.wrap (IntKind.u64.wrap (x / 4294967296 * (y / 4294967296)) + mulT x y / 4294967296) + IntKind.u64.wrap (bits BinOp.and IntKind.u64 (mulT x y) 4294967295 + IntKind.u64.wrap (bits BinOp.and IntKind.u64 x 4294967295 * (y / 4294967296))) / 4294967296)
def mulLo (x y : Int) : Int := IntKind.u64.wrap (x * y)
theorem mul64 (x y : Int) (w : World) :
    Calls Tryd.prog 25 #[.int .u64 x, .int .u64 y] w fun e w' => e = .returned (.tuple #[.int .u64 (mulHi x y), .int .u64 (mulLo x y)]) ∧ w' = w := by
  go_enter Tryd.func25, Tryd.ntmps25
  go_wp2
  go_ret2
  exact ⟨rfl, rfl⟩
theorem wrap_in (n : Int) : 0 ≤ IntKind.u64.wrap n ∧ IntKind.u64.wrap n < 18446744073709551616 := by
  simp [IntKind.wrap, IntKind.bits, IntKind.signed]; omega

theorem add64_run (x y c : Int) (hx : 0 ≤ x) (hy : 0 ≤ y) (hc0 : 0 ≤ c) (hc : c ≤ 1) (w : World) : (callFunc 26 #[.int .u64 x, .int .u64 y, .int .u64 c]).run Tryd.prog w =
    .ok (.value (.tuple #[.int .u64 ((x + y + c) % 18446744073709551616), .int .u64 ((x + y + c) / 18446744073709551616)])) w := by
  rw [run_callFunc_extern (fn := Tryd.f26) (e := add64Entry) Tryd.func26 (by kernel_rfl) (by kernel_rfl) (by kernel_rfl) (by kernel_rfl)]
  rw [run_add64 x y c hx hy hc0 hc]
  rfl

theorem w64_small {n : Int} (h : 0 ≤ n) (h1 : n ≤ 1000) : wrap64 n = n := by
  unfold wrap64; omega
set_option maxRecDepth 10000 in
/-- How many binary digits a byte has. -/
def tabL : ByteArray := ⟨#[0, 1, 2, 2, 3, 3, 3, 3, 4, 4, 4, 4, 4, 4, 4, 4, 5, 5, 5, 5, 5, 5, 5, 5, 5, 5, 5, 5, 5, 5, 5, 5, 6, 6, 6, 6, 6, 6, 6, 6, 6, 6, 6, 6, 6, 6, 6, 6, 6, 6, 6, 6, 6, 6, 6, 6, 6, 6, 6, 6, 6, 6, 6, 6, 7, 7, 7, 7, 7, 7, 7, 7, 7, 7, 7, 7, 7, 7, 7, 7, 7, 7, 7, 7, 7, 7, 7, 7, 7, 7, 7, 7, 7, 7, 7, 7, 7, 7, 7, 7, 7, 7, 7, 7, 7, 7, 7, 7, 7, 7, 7, 7, 7, 7, 7, 7, 7, 7, 7, 7, 7, 7, 7, 7, 7, 7, 7, 7, 8, 8, 8, 8, 8, 8, 8, 8, 8, 8, 8, 8, 8, 8, 8, 8, 8, 8, 8, 8, 8, 8, 8, 8, 8, 8, 8, 8, 8, 8, 8, 8, 8, 8, 8, 8, 8, 8, 8, 8, 8, 8, 8, 8, 8, 8, 8, 8, 8, 8, 8, 8, 8, 8, 8, 8, 8, 8, 8, 8, 8, 8, 8, 8, 8, 8, 8, 8, 8, 8, 8, 8, 8, 8, 8, 8, 8, 8, 8, 8, 8, 8, 8, 8, 8, 8, 8, 8, 8, 8, 8, 8, 8, 8, 8, 8, 8, 8, 8, 8, 8, 8, 8, 8, 8, 8, 8, 8, 8, 8, 8, 8, 8, 8, 8, 8, 8, 8, 8, 8, 8, 8, 8, 8, 8, 8, 8, 8]⟩
def lenV (a : Int) (i : Int) : Int := wrap64 (a + wrap64 (tabL[i.toNat]!.toNat : Int))
theorem tabL_le : (List.range 256).all (fun i => decide (tabL[i]!.toNat ≤ 8)) = true := by decide +kernel
theorem lenV_in (a : Int) {i : Int} (h : 0 ≤ i ∧ i < 256) (ha : 0 ≤ a) (ha1 : a ≤ 56) : 0 ≤ lenV a i ∧ lenV a i ≤ 64 := by
  have hl := List.all_eq_true.1 tabL_le i.toNat (List.mem_range.2 (by omega))
  simp only [decide_eq_true_eq] at hl
  unfold lenV
  rw [w64_small (n := (tabL[i.toNat]!.toNat : Int)) (by omega) (by omega), w64_small (by omega) (by omega)]
  omega

set_option maxRecDepth 10000 in
theorem len64 (x : Int) (hx : 0 ≤ x) (hx1 : x < 18446744073709551616) : ∃ n, (∀ w, Calls Tryd.prog 28 #[.int .u64 x] w fun e w' => e = .returned (.int .i64 n) ∧ w' = w) ∧ 0 ≤ n ∧ n ≤ 64 := by
  by_cases h0 : 4294967296 ≤ x
  · by_cases h1 : 65536 ≤ x / 4294967296
    · by_cases h2 : 256 ≤ x / 4294967296 / 65536
      · refine ⟨lenV 56 (x / 4294967296 / 65536 / 256), fun w => ?_, lenV_in 56 (by omega) (by omega) (by omega)⟩
        go_enter Tryd.func28, Tryd.ntmps28
        go_wp2
        rw [← getElem!_pos]
        go_ret
        exact ⟨rfl, rfl⟩
      · refine ⟨lenV 48 (x / 4294967296 / 65536), fun w => ?_, lenV_in 48 (by omega) (by omega) (by omega)⟩
        go_enter Tryd.func28, Tryd.ntmps28
        go_wp2
        rw [← getElem!_pos]
        go_ret
        exact ⟨rfl, rfl⟩
    · by_cases h2 : 256 ≤ x / 4294967296
      · refine ⟨lenV 40 (x / 4294967296 / 256), fun w => ?_, lenV_in 40 (by omega) (by omega) (by omega)⟩
        go_enter Tryd.func28, Tryd.ntmps28
        go_wp2
        rw [← getElem!_pos]
        go_ret
        exact ⟨rfl, rfl⟩
      · refine ⟨lenV 32 (x / 4294967296), fun w => ?_, lenV_in 32 (by omega) (by omega) (by omega)⟩
        go_enter Tryd.func28, Tryd.ntmps28
        go_wp2
        rw [← getElem!_pos]
        go_ret
        exact ⟨rfl, rfl⟩
  · by_cases h1 : 65536 ≤ x
    · by_cases h2 : 256 ≤ x / 65536
      · refine ⟨lenV 24 (x / 65536 / 256), fun w => ?_, lenV_in 24 (by omega) (by omega) (by omega)⟩
        go_enter Tryd.func28, Tryd.ntmps28
        go_wp2
        rw [← getElem!_pos]
        go_ret
        exact ⟨rfl, rfl⟩
      · refine ⟨lenV 16 (x / 65536), fun w => ?_, lenV_in 16 (by omega) (by omega) (by omega)⟩
        go_enter Tryd.func28, Tryd.ntmps28
        go_wp2
        rw [← getElem!_pos]
        go_ret
        exact ⟨rfl, rfl⟩
    · by_cases h2 : 256 ≤ x
      · refine ⟨lenV 8 (x / 256), fun w => ?_, lenV_in 8 (by omega) (by omega) (by omega)⟩
        go_enter Tryd.func28, Tryd.ntmps28
        go_wp2
        rw [← getElem!_pos]
        go_ret
        exact ⟨rfl, rfl⟩
      · refine ⟨lenV 0 (x), fun w => ?_, lenV_in 0 (by omega) (by omega) (by omega)⟩
        go_enter Tryd.func28, Tryd.ntmps28
        go_wp2
        rw [← getElem!_pos]
        go_ret
        exact ⟨by rw [show lenV 0 (x) = wrap64 (wrap64 (tabL[(x).toNat]!.toNat : Int)) by unfold lenV; rw [Int.zero_add]]; rfl, rfl⟩

theorem lz64 (x : Int) (hx : 0 ≤ x) (hx1 : x < 18446744073709551616) : ∃ n, (∀ w, Calls Tryd.prog 27 #[.int .u64 x] w fun e w' => e = .returned (.int .i64 n) ∧ w' = w) ∧ 0 ≤ n ∧ n ≤ 64 := by
  obtain ⟨n, hc, h0, h1⟩ := len64 x hx hx1
  refine ⟨64 - n, fun w => ?_, by omega, by omega⟩
  have HC := Lib.hid hc
  clear hc hx hx1
  go_enter Tryd.func27, Tryd.ntmps27
  go_wp2_with (go_at_call 28; refine (HC.out _).mono ?_; rintro e w' ⟨rfl, rfl⟩)
  go_ret
  exact ⟨rfl, rfl⟩
end Go.Proofs.YtgaodnflifkaiaaDoor

