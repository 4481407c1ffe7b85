/- The walk of FnQuotedCommaSeparatedMatchesASCIIQuoteModel, fmt's text told. -/
import Derived.Test.YtcjbnieeoggfkaaFmtQl
namespace Go.Proofs.YtcjbnieeoggfkaaFmt
open Go.RowKit Go.Extern.Stop Go.Stop Go.Extern
set_option linter.unusedVariables false
set_option linter.unusedSimpArgs false

theorem ret_bool {a b : Bool} (h : a = true ↔ b = true) : Ending.returned (.bool a) = .returned (.bool b) := by rw [Bool.eq_iff_iff.2 h]
theorem fnQuotedCommaSeparatedMatchesASCIIQuoteModel.walk (F : Interp) (A : Option Addr) (n c : Nat) (f : Nat → ByteArray) (w : World) (h : InStrs w A n c f) (hF : F.told.answers w.tape) :
    Calls Tryf.prog 3 #[.slice A n c] w fun e w' => e = .returned (.bool true) ∧ Below w.heap.size w w' := by
  have H := Lib.hid h
  have HF := Lib.hid hF
  have c1 := zzB4 A n c f w h
  have C1 := Lib.hid c1
  by_cases hn : n + tot f n ≤ 1048576
  · have hd : decide (n + tot f n ≤ 1048576) = true := decide_eq_true hn
    clear h hF c1
    go_enter Tryf.func3, Tryf.ntmps3
    go_wp2_with (first | (go_at_call 4; refine C1.out.mono ?_; rintro e w' ⟨rfl, rfl⟩) | (go_at_call 5; refine (strBytes A n c f _ _ H.out.row hn).mono ?_; rintro e w' ⟨r, rfl, rfl, hr0, hr1⟩))
    rotate_left
    · refine (allASCII A n c f _ _ H.out.row hn).mono ?_
      rintro e w' ⟨b, rfl, rfl, hb⟩
      cases b
      · go_wp2_with fail
        go_ret
        exact ⟨rfl, Below.refl _ _⟩
      · have has := hb rfl
        have HAS := Lib.hid has
        clear hb has
        go_wp2_with fail
        refine (clone A n c f _ H.out.row (by omega)).mono ?_
        rintro e w1 ⟨A', c', rfl, hc', hrow, hb1⟩
        have HR := Lib.hid hrow
        have HB1 := Lib.hid hb1
        clear hrow hb1
        go_wp2_with fail
        refine (quotedList F A' n c' f w1.heap.size w1 HR.out (Nat.le_refl _) hn HAS.out (by rw [HB1.out.tape]; exact HF.out)).mono ?_
        rintro e w2 ⟨rfl, hb2⟩
        have HB2 := Lib.hid (HB1.out.trans (hb2.mono HB1.out.size))
        have HR2 := Lib.hid (HR.out.below hb2)
        have hs2 := hb2.size
        clear hb2
        go_wp2_with fail
        refine (quoteListA A' n c' f w1.heap.size w2 HR2.out hs2 hn HAS.out).mono ?_
        rintro e w3 ⟨rfl, hb3⟩
        have HB3 := Lib.hid (HB2.out.trans (hb3.mono HB2.out.size))
        clear hb3
        generalize (⟨(joinQ f n).toArray⟩ : ByteArray) = t at *
        go_wp2_with fail
        go_ret
        exact ⟨ret_bool (by simp), HB3.out⟩
    · go_ret
      exact ⟨rfl, Below.refl _ _⟩
  · have hd : decide (n + tot f n ≤ 1048576) = false := decide_eq_false hn
    clear h hF c1
    go_enter Tryf.func3, Tryf.ntmps3
    go_wp2_with (go_at_call 4; refine C1.out.mono ?_; rintro e w' ⟨rfl, rfl⟩)
    go_ret
    exact ⟨rfl, Below.refl _ _⟩
end Go.Proofs.YtcjbnieeoggfkaaFmt
