/- convertErrorsAndWarningsToInternal; the two doors of the api. -/
import Derived.Test.YtippmlajjkdblaaPm
namespace Go.Proofs.Ytippmlajjkdblaa
open Go.RowKit
set_option linter.unusedVariables false
set_option linter.unusedSimpArgs false
theorem convX (L : Nat) (kind : Int) (A0 : Option Addr) (k0 c0 : Nat) (xs0 : List Value) (P : PQ) (A : Option Addr) (n c : Nat) (M : Nat → MsgP) (m : Nat) (hm : m = k0 + n) (w : World) (ho : w.ownsRow L 38 8 (.slice A0 k0 c0) k0 xs0) (hx : GrpAt w xs0 k0 P) (h : PubRow w A n M) (hn : n ≤ 4096) (hk0 : k0 ≤ 4096) (hL : L ≤ w.heap.size) :
    Calls Try.prog 14 #[.slice A0 k0 c0, .int .u8 kind, .slice A n c] w fun e w' => ∃ A' c', e = .returned (.slice A' m c') ∧ (∃ xs P', w'.ownsRow L 38 8 (.slice A' m c') m xs ∧ GrpAt w' xs m P' ∧ (∀ i, i < k0 → P' i = P i) ∧ ∀ i, i < n → (P' (k0 + i)).2 = toR kind (M i)) ∧ Kt L w w' := by
  subst hm
  exact conv L kind A0 k0 c0 xs0 P A n c M w ho hx h hn hk0 hL
def P0 : PQ := fun _ => (⟨none, 0, 0, ⟨#[]⟩, none, ⟨#[]⟩, 0, 0⟩, ⟨⟨#[]⟩, ⟨#[]⟩, none, 0, fun _ => ⟨#[]⟩, fun _ => none, 0, 0⟩)
/-- What is wanted: the errors as errors, the warnings as warnings. -/
noncomputable def RR (M M' : Nat → MsgP) (n : Nat) (i : Nat) : MsgR := if i < n then toR 0 (M i) else toR 1 (M' (i - n))
/-- A row of messages that mean P. -/
structure Row (w : World) (g n : Nat) (P : PQ) : Prop where
  row : MRow w g n (fstQ P)
  is : ∀ i, i < n → IsG w (Zo w) (P i).1 (P i).2
theorem ne_of_zo {w : World} {base size n c g b : Nat} {xs : List Value} (ho : w.ownsRow base 38 size (.slice (some ⟨g, 0, none⟩) n c) n xs) (hz : Zo w b) : b ≠ g := by
  obtain ⟨cur, t, h1, h2⟩ := hz
  intro e
  exact row_other ho h1 h2 (by rw [e]; rfl)
set_option maxRecDepth 100000 in
set_option maxHeartbeats 4000000 in
theorem merged (L : Nat) (A : Option Addr) (n c : Nat) (M : Nat → MsgP) (B : Option Addr) (m d : Nat) (M' : Nat → MsgP) (w : World) (h : PubRow w A n M) (h' : PubRow w B m M') (hn : n + m ≤ 4096) (hL : L ≤ w.heap.size) :
    Calls Try.prog 12 #[.slice A n c, .slice B m d] w fun e w' => Kt L w w' ∧ ((n + m = 0 ∧ e = .returned (.slice none 0 0)) ∨ (0 < n + m ∧ ∃ g cap P P', e = .returned (.slice (some ⟨g, 0, none⟩) (n + m) cap) ∧ Row w' g (n + m) P' ∧ (∀ p : Grp × MsgR → Bool, cnt p P' (n + m) = cnt p P (n + m)) ∧ ∀ i, i < n + m → (P i).2 = RR M M' n i)) := by
  have H := Lib.hid h
  have H' := Lib.hid h'
  clear h h'
  obtain ⟨j0, hi, hz0, hz1, hz2⟩ := info_parts infoMsg
  by_cases h0 : n + m = 0
  · have e0 : n = 0 := by omega
    have e1 : m = 0 := by omega
    subst e0 e1
    clear hi hz0 hz1 hz2
    go_enter Try.func12, Try.ntmps12
    go_wp2_with fail
    go_ret
    exact ⟨Kt.refl _ _, rfl⟩
  · obtain ⟨w1, hmk, how, hgr⟩ := run_make_own w L 55 38 j0 _ 8 Try.underlying55 hi hz0 hz1 .i64 .i64 (n + m) (by rw [hz2]; omega) (by unfold maxLen; omega) hL
    rw [show ((n + m : Nat) : Int) = (n : Int) + (m : Int) by omega] at hmk
    have HO := Lib.hid how
    have K1 : Hid (Kt L w w1) := Lib.hid (Kt.of_below ⟨hgr.os, hgr.tape, hgr.output, hgr.size, fun k hk => hgr.block k hk (by simp)⟩ hL)
    have hs1 : L ≤ w1.heap.size := Nat.le_trans hL K1.out.size
    have hpos : (0 : Int) < (n : Int) + (m : Int) := by omega
    clear how hgr hi hz0 hz1 hz2
    go_enter Try.func12, Try.ntmps12
    go_wp2_with fail
    refine (convX L 0 _ 0 (n + m) [] P0 A n c M n (by omega) w1 HO.out (GrpAt.nil _ _) (H.out.keep K1.out) (by omega) (by omega) hs1).mono ?_
    rintro e w2 ⟨A2, c2, rfl, ⟨xs, P2, ho2, hx2, _, hr2⟩, hk2⟩
    have K2 := Lib.hid (K1.out.trans hk2)
    have HO2 := Lib.hid ho2
    have HX2 := Lib.hid hx2
    have HR2 : Hid (∀ i, i < n → (P2 i).2 = toR 0 (M i)) := Lib.hid fun i hi => by
      have := hr2 i hi
      rwa [Nat.zero_add] at this
    clear hk2 ho2 hx2 hr2 HO
    go_wp2_with fail
    refine (convX L 1 A2 n c2 xs P2 B m d M' (n + m) rfl w2 HO2.out HX2.out (H'.out.keep K2.out) (by omega) (by omega) (Nat.le_trans hL K2.out.size)).mono ?_
    rintro e w3 ⟨A3, c3, rfl, ⟨xs3, P3, ho3, hx3, ha3, hr3⟩, hk3⟩
    have K3 := Lib.hid (K2.out.trans hk3)
    have HX3 := Lib.hid hx3
    have HR3 : Hid (∀ i, i < n + m → (P3 i).2 = RR M M' n i) := Lib.hid fun i hi => by
      unfold RR
      by_cases hin : i < n
      · rw [if_pos hin, ha3 i hin]
        exact HR2.out i hin
      · rw [if_neg hin]
        have := hr3 (i - n) (by omega)
        rwa [show n + (i - n) = i by omega] at this
    obtain ⟨g, rfl⟩ : ∃ g, A3 = some ⟨g, 0, none⟩ := by
      rcases ho3.2 with ⟨_, e⟩ | ⟨g, cap, cur, e, _⟩
      · omega
      · injection e with e
        exact ⟨g, e⟩
    have HO3 := Lib.hid ho3
    clear hk3 ho3 hx3 ha3 hr3 HO2 HX2 HR2
    have HMR := Lib.hid (HX3.out.row HO3.out)
    have HIS : Hid (∀ i, i < n + m → IsG w3 (Zo w3) (P3 i).1 (P3 i).2) := Lib.hid fun i hi => (HX3.out.2 i hi).2
    go_wp2_with fail
    refine (sorted w3 g (n + m) c3 P3 HMR.out (fun i hi => (HIS.out i hi).keep (fun b hb _ => ne_of_zo HO3.out hb) (fun _ _ _ => rfl) (Nat.le_refl _)) (by omega)).mono ?_
    rintro e w4 ⟨rfl, P4, hP⟩
    have HP := Lib.hid hP
    clear hP
    go_wp2_with fail
    go_ret
    have hoth : ∀ b, Zo w3 b → w4.heap[b]? = w3.heap[b]? := fun b hb => HP.out.gr.block b hb.lt (fun e => by injection e with e; exact ne_of_zo HO3.out hb e)
    have hlg := (HO3.out.lt g rfl).1
    have K4 : Kt L w3 w4 := ⟨HP.out.gr.os, HP.out.gr.tape, HP.out.gr.output, HP.out.gr.size, fun b hb => HP.out.gr.block b (by have := (HO3.out.lt g rfl).2; omega) (fun e => by injection e with e; omega), hoth⟩
    refine ⟨K3.out.trans K4, Or.inr ⟨by omega, g, c3, P3, P4, rfl, ⟨HP.out.row, fun i hi => ?_⟩, HP.out.cnt, HR3.out⟩⟩
    obtain ⟨k, hk, e⟩ := HP.out.src i hi
    rw [e]
    exact (HIS.out k hk).kt K4
theorem mergedZ (L : Nat) (A : Option Addr) (n c : Nat) (M : Nat → MsgP) (B : Option Addr) (m d : Nat) (M' : Nat → MsgP) (w : World) (h : PubRow w A n M) (h' : PubRow w B m M') (hn : n + m ≤ 4096) (hL : L ≤ w.heap.size) :
    Calls Try.prog 7 #[.slice A n c, .slice B m d] w fun e w' => Kt L w w' ∧ ((n + m = 0 ∧ e = .returned (.slice none 0 0)) ∨ (0 < n + m ∧ ∃ g cap P P', e = .returned (.slice (some ⟨g, 0, none⟩) (n + m) cap) ∧ Row w' g (n + m) P' ∧ (∀ p : Grp × MsgR → Bool, cnt p P' (n + m) = cnt p P (n + m)) ∧ ∀ i, i < n + m → (P i).2 = RR M M' n i)) := by
  have C := Lib.hid (merged L A n c M B m d M' w h h' hn hL)
  clear h h'
  go_enter Try.func7, Try.ntmps7
  go_wp2_with fail
  refine C.out.mono ?_
  rintro e w1 ⟨hk, h | h⟩
  · obtain ⟨h0, rfl⟩ := h
    go_wp2_with fail
    go_ret
    exact ⟨hk, Or.inl ⟨h0, rfl⟩⟩
  · obtain ⟨h0, g, cap, P, P', rfl, rest⟩ := h
    have HR := Lib.hid rest
    clear rest
    go_wp2_with fail
    go_ret
    exact ⟨hk, Or.inr ⟨h0, g, cap, P, P', rfl, HR.out⟩⟩
theorem convZ (L : Nat) (kind : Int) (A0 : Option Addr) (k0 c0 : Nat) (xs0 : List Value) (P : PQ) (A : Option Addr) (n c : Nat) (M : Nat → MsgP) (m : Nat) (hm : m = k0 + n) (w : World) (ho : w.ownsRow L 38 8 (.slice A0 k0 c0) k0 xs0) (hx : GrpAt w xs0 k0 P) (h : PubRow w A n M) (hn : n ≤ 4096) (hk0 : k0 ≤ 4096) (hL : L ≤ w.heap.size) :
    Calls Try.prog 9 #[.slice A0 k0 c0, .int .u8 kind, .slice A n c] w fun e w' => ∃ A' c', e = .returned (.slice A' m c') ∧ (∃ xs P', w'.ownsRow L 38 8 (.slice A' m c') m xs ∧ GrpAt w' xs m P' ∧ (∀ i, i < k0 → P' i = P i) ∧ ∀ i, i < n → (P' (k0 + i)).2 = toR kind (M i)) ∧ Kt L w w' := by
  have C := Lib.hid (convX L kind A0 k0 c0 xs0 P A n c M m hm w ho hx h hn hk0 hL)
  clear ho hx h hm
  go_enter Try.func9, Try.ntmps9
  go_wp2_with fail
  refine C.out.mono ?_
  rintro e w1 ⟨A', c', rfl, hr, hk⟩
  have HR := Lib.hid hr
  clear hr
  go_wp2_with fail
  go_ret
  exact ⟨_, _, rfl, HR.out, hk⟩
end Go.Proofs.Ytippmlajjkdblaa
