/- What the model's archCeil and archFloor give; rounding by bits. -/
import Derived.Test.YtgaodnflifkaiaaDoorF64J
import Derived.Laws.Externs
namespace Go.Fl
open Ieee
set_option linter.unusedVariables false
set_option linter.unusedSimpArgs false

def IntR (way : Toward) (x r : Nat) : Prop := r < 2 ^ 64 ∧ (nan x = true → nan r = true) ∧ (nan x = false → r = double.write ((double.read x).integral way))
theorem quiet_nan (s : Bool) (t : Nat) : nan (double.write (.nan s (double.quiet t))) = true := by
  have e : double.write (.nan s (double.quiet t)) = wd s (infR + double.quiet t % 2 ^ 52) := by
    show double.word s (double.infRung + double.quiet t % double.binade) = _
    rw [double_inf]; rfl
  have hb : (double.quiet t % 2 ^ 52).testBit 51 = true := by
    have : double.quiet t = t ||| 2 ^ 51 := rfl
    rw [this, Nat.testBit_mod_two_pow, Nat.testBit_or, Nat.testBit_two_pow_self]
    simp
  have hp : 0 < double.quiet t % 2 ^ 52 := by
    rcases Nat.eq_zero_or_pos (double.quiet t % 2 ^ 52) with h | h
    · rw [h] at hb; simp at hb
    · exact h
  have hl : double.quiet t % 2 ^ 52 < 2 ^ 52 := Nat.mod_lt _ (by decide)
  rw [e, nan_iff, rung_wd _ (by unfold infR; omega)]
  omega

theorem run_integral {P : Program} (name : String) (way : Toward) {x : Nat} (hx : x < 2 ^ 64) (w : World) : ∃ r n, (Extern.MathFloor.toIntegral name way #[.float .f64 x]).run P w = .ok (.float .f64 r) (w.drewN n) ∧ IntR way x r := by
  obtain ⟨q, e, hq⟩ : ∃ q : Question, Extern.MathFloor.toIntegral name way #[.float .f64 x] = (match double.read x with
    | .nan s t =>
      if double.quiet t = t then pure (.float .f64 x) else do
      let kept ← choose q
      pure (.float .f64 (if kept == 1 then x else double.write (.nan s (double.quiet t))))
    | d => pure (.float .f64 (double.write (d.integral way)))) ∧ q.forced = false := ⟨_, rfl, rfl⟩
  rw [e]
  rcases cases_word x with h | h | h
  · obtain ⟨t, et⟩ := read_nan h
    rw [et]
    simp only
    have hR : ∀ r, r < 2 ^ 64 → nan r = true → IntR way x r := fun r h1 h2 => ⟨h1, fun _ => h2, fun h' => by rw [h] at h'; cases h'⟩
    split
    · exact ⟨x, 0, rfl, hR x hx h⟩
    · refine ⟨if (q.cut (w.tape w.drawn q) == 1) = true then x else double.write (.nan (neg x) (double.quiet t)), 1, ?_, ?_⟩
      · simp [hq]; rfl
      · split
        · exact hR x hx h
        · exact hR _ (double.write_lt _) (quiet_nan _ _)
  · refine ⟨_, 0, by rw [read_inf h]; rfl, double.write_lt _, (fun h' => by rw [not_nan (by omega)] at h'; cases h'), (fun _ => by rw [read_inf h])⟩
  · obtain ⟨m, k, em, _⟩ := read_fin h
    refine ⟨_, 0, by rw [em]; rfl, double.write_lt _, (fun h' => by rw [not_nan (by omega)] at h'; cases h'), (fun _ => by rw [em])⟩

/-- Ceiling and floor of a number. -/
theorem IntR.up {x r : Nat} (hx : x < 2 ^ 64) (h : IntR .up x r) (hn : nan x = false) : (rung x < infR → r = ceilW x) ∧ (rung x = infR → r = x) := by
  refine ⟨fun hf => ?_, fun hi => ?_⟩
  · rw [h.2.2 hn, integral_up hf]; rfl
  · rw [h.2.2 hn, read_inf hi]
    show double.write (.infinity (neg x)) = x
    rw [write_inf, ← hi, wd_self hx]
theorem IntR.down {x r : Nat} (hx : x < 2 ^ 64) (h : IntR .down x r) (hn : nan x = false) : (rung x < infR → r = floorW x) ∧ (rung x = infR → r = x) := by
  refine ⟨fun hf => ?_, fun hi => ?_⟩
  · rw [h.2.2 hn, integral_down hf]; rfl
  · rw [h.2.2 hn, read_inf hi]
    show double.write (.infinity (neg x)) = x
    rw [write_inf, ← hi, wd_self hx]
theorem large_words {x : Nat} (hx : x < 2 ^ 64) (hf : rung x < infR) (h : ¬ rung x < 4841369599423283200) : ceilW x = x ∧ floorW x = x ∧ roundW x = x := by
  have hr := rs_large hf h
  obtain ⟨h1, h2, h3⟩ := whole_same hr
  unfold ceilW floorW roundW
  rw [h1, h2, h3, iw_self hx hf hr]
  exact ⟨rfl, rfl, rfl⟩

end Go.Fl
