/- The walk of the law FnParseGlobPatternIsStableThroughToString. -/
import Derived.Test.YthkfaohmkncgeaaParse
import Derived.BigQuiet
namespace Go.Proofs.Ythkfaohmkncgeaa
open Go.RowKit
set_option linter.unusedVariables false
set_option linter.unusedSimpArgs false

theorem decBs {p : Prop} [Decidable p] (v : Bool) (h : decide p = v) {P : Program} {F : FuncId} {args : Array Value} {w : World} (c : Calls P F args w fun e w' => e = .returned (.bool (decide p)) ∧ w = w') :
    Calls P F args w fun e w' => e = .returned (.bool v) ∧ w = w' := by rw [h] at c; exact c
theorem partsEqual (A A' : Option Addr) (n c c' : Nat) (pre : Nat → ByteArray) (wc : Nat → Int) (B : Nat) (w : World) (h : RowP w B A n pre wc) (h' : RowP w B A' n pre wc) (hn : n ≤ 4194304) :
    Calls Try.prog 8 #[.slice A n c, .slice A' n c'] w fun e w' => e = .returned (.bool true) ∧ ∃ m, w' = w.drewN m := by
  have H := Lib.hid h
  have H' := Lib.hid h'
  clear h h'
  go_enter Try.func8, Try.ntmps8
  go_wp2_with fail
  go_loopg [5] n (fun g z wr => (∃ m, wr = w.drewN m) ∧ ∃ k : Nat, k ≤ n ∧ g = n - k ∧ z = .int .i64 k)
  case atStart => exact ⟨⟨0, rfl⟩, 0, Nat.zero_le _, rfl, rfl⟩
  case round =>
    obtain ⟨⟨m, rfl⟩, k, hk, rfl, rfl⟩ := hrel
    by_cases hlt : k < n
    · obtain ⟨b, o, rfl, hb, hc⟩ := H.out (by omega)
      obtain ⟨b', o', rfl, hb', hc'⟩ := H'.out (by omega)
      have d1 : (w.drewN m).cell? ⟨b, o + k * 2, none⟩ = some (.string (pre k)) := (hc k hlt).1
      have d2 : (w.drewN m).cell? ⟨b, o + k * 2 + 1, none⟩ = some (.int .u8 (wc k)) := (hc k hlt).2
      have d3 : (w.drewN m).cell? ⟨b', o' + k * 2, none⟩ = some (.string (pre k)) := (hc' k hlt).1
      have d4 : (w.drewN m).cell? ⟨b', o' + k * 2 + 1, none⟩ = some (.int .u8 (wc k)) := (hc' k hlt).2
      clear hc hc'
      generalize hW : w.drewN m = W at *
      go_wp2_with fail
      go_quiet (fail)
      go_wp2_with fail
      go_roundg (n - (k + 1))
      case rel => exact ⟨by rw [← hW]; exact ⟨_, World.drewN_drewN _ _ _⟩, k + 1, by omega, rfl, by go_num⟩
      case measure => omega
    · go_wp2_with fail
      go_ret
      exact ⟨rfl, m, rfl⟩

theorem fnParseGlobPatternIsStableThroughToString.main (s : ByteArray) (w : World) (hs : s.size ≤ 1048576) :
    Calls Try.prog 3 #[.string s] w fun e w' => e = .returned (.bool true) ∧ Below w.heap.size w w' := by
  have C1 := Lib.hid (decBs true (decide_eq_true hs) (zzB5 s w (by unfold maxLen; omega)))
  go_enter Try.func3, Try.ntmps3
  go_wp2_with fail
  refine C1.out.mono ?_
  rintro e w' ⟨rfl, rfl⟩
  clear C1
  go_wp2_with fail
  refine (parseGlob s w hs).mono ?_
  rintro e wa ⟨v, ps, rfl, hps, hown, hba⟩
  obtain ⟨b1, b2, b3⟩ := hps.bounds
  rw [size_list] at b1 b2 b3
  obtain ⟨A, c, rfl, hrow⟩ := own_parts hown
  have htp : tot (preOf ps) ps.length = sizes ps := by rw [tot_of ps _ (Nat.le_refl _), List.take_length]
  have hgl : gS (preOf ps) (wcOf ps) ps.length = ⟨(print ps).toArray⟩ := by unfold gS; rw [gl_of ps _ (Nat.le_refl _), List.take_length]
  have HPS := Lib.hid hps
  have HR := Lib.hid hrow
  have HBA := Lib.hid hba
  have hsa := hba.size
  clear hps hown hrow hba
  go_wp2_with fail
  have hts := toStr A ps.length c (preOf ps) (wcOf ps) wa.heap.size wa HR.out (Nat.le_refl _) (by omega) (by omega)
  rw [hgl] at hts
  refine hts.mono ?_
  rintro e wb ⟨rfl, hbb⟩
  have HRb := Lib.hid (HR.out.below hbb)
  have HBB := Lib.hid (HBA.out.trans (hbb.mono hsa))
  have hsb := hbb.size
  clear hts hbb HR HBA
  go_wp2_with fail
  refine (parseGlob ⟨(print ps).toArray⟩ wb (by show (print ps).toArray.size ≤ _; simp; omega)).mono ?_
  rintro e wc ⟨v, qs, rfl, hqs, hown, hbc⟩
  obtain rfl : ps = qs := HPS.out.again.1.det hqs (by simp)
  obtain ⟨A', c', rfl, hrow⟩ := own_parts hown
  have hsc := hbc.size
  have HRc := Lib.hid (((HRb.out.below (hbc.mono hsb))).more (show wa.heap.size ≤ wc.heap.size by omega))
  have HRd := Lib.hid hrow
  have HBC := Lib.hid (HBB.out.trans (hbc.mono (show w.heap.size ≤ wb.heap.size by omega)))
  clear hown hrow hbc HRb HBB hqs
  go_wp2_with fail
  have hps4 : ps.length ≤ 4194304 := by omega
  have ht4 : tot (preOf ps) ps.length ≤ 4194304 := by omega
  clear htp b1 b2 b3
  refine (partsEqual A A' ps.length c c' (preOf ps) (wcOf ps) wc.heap.size wc HRc.out HRd.out hps4).mono ?_
  rintro e wd ⟨rfl, m, rfl⟩
  go_wp2_with fail
  have hts := toStr A' ps.length c' (preOf ps) (wcOf ps) wc.heap.size (wc.drewN m) HRd.out (Nat.le_refl _) hps4 ht4
  rw [hgl] at hts
  refine hts.mono ?_
  rintro e we ⟨rfl, hbe⟩
  have HBE : Hid (Below w.heap.size w we) := Lib.hid (HBC.out.trans ((below_of_drewN hbe).mono (show w.heap.size ≤ wc.heap.size by omega)))
  clear hts hbe
  go_wp2_with fail
  go_ret
  exact ⟨rfl, HBE.out⟩
theorem fnParseGlobPatternIsStableThroughToString.walk (s : ByteArray) (w : World) (h : s.size ≤ maxLen) :
    Calls Try.prog 3 #[.string s] w fun e w' => e = .returned (.bool true) ∧ Below w.heap.size w w' := by
  by_cases hs : s.size ≤ 1048576
  · exact main s w hs
  · have C1 := Lib.hid (decBs false (decide_eq_false hs) (zzB5 s w h))
    go_enter Try.func3, Try.ntmps3
    go_wp2_with fail
    refine C1.out.mono ?_
    rintro e w' ⟨rfl, rfl⟩
    go_wp2_with fail
    go_ret
    exact ⟨rfl, Below.refl _ _⟩
end Go.Proofs.Ythkfaohmkncgeaa
