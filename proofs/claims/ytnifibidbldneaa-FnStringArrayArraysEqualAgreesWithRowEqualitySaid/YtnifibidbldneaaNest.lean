/- Lists of lists of strings: the walks of StringArrayArraysEqual and of its law's helpers. -/
import Derived.Test.YtnifibidbldneaaLawA
import Derived.Test.YtnifibidbldneaaCopy
namespace Go.Proofs.Ytnifibidbldneaa
open Go.RowKit
set_option linter.unusedVariables false
set_option linter.unusedSimpArgs false

theorem Try.info22 : (Try.prog.info? 22).map (fun i => (i.zero, i.size, i.bytes)) = some (some (.slice none 0 0), 1, 24) := by kernel_rfl

structure Rows2 (w : World) (B : Nat) (A : Option Addr) (n : Nat) (AA : Nat → Option Addr) (nn cc : Nat → Nat) (ff : Nat → Nat → ByteArray) : Prop where
  out : RowF w B A n (fun i => .slice (AA i) (nn i) (cc i))
  inn : ∀ i, i < n → RowF w B (AA i) (nn i) (fun j => .string (ff i j))
  bnd : ∀ i, i < n → nn i ≤ 1048576
section
variable {w w' : World} {B B' : Nat} {A : Option Addr} {n : Nat} {AA : Nat → Option Addr} {nn cc : Nat → Nat} {ff : Nat → Nat → ByteArray}
theorem Rows2.below (h : Rows2 w B A n AA nn cc ff) (hb : Below B w w') : Rows2 w' B A n AA nn cc ff := ⟨h.out.below hb, fun i hi => (h.inn i hi).below hb, h.bnd⟩
theorem Rows2.more (h : Rows2 w B A n AA nn cc ff) (hB : B ≤ B') : Rows2 w B' A n AA nn cc ff := ⟨h.out.more hB, fun i hi => (h.inn i hi).more hB, h.bnd⟩
theorem Rows2.keep (h : Rows2 w B A n AA nn cc ff) (hk : ∀ p : Addr, p.block < B → w'.cell? p = w.cell? p) : Rows2 w' B A n AA nn cc ff := ⟨h.out.keep hk, fun i hi => (h.inn i hi).keep hk, h.bnd⟩
end
def same2 (n : Nat) (nn : Nat → Nat) (ff : Nat → Nat → ByteArray) (m : Nat) (mm : Nat → Nat) (gg : Nat → Nat → ByteArray) : Bool := decide (n = m ∧ ∀ i, i < n → sameS (nn i) (ff i) (mm i) (gg i) = true)
theorem sameS_refl (n : Nat) (f : Nat → ByteArray) : sameS n f n f = true := by simp [sameS]
theorem sameS_comm (n : Nat) (f : Nat → ByteArray) (m : Nat) (g : Nat → ByteArray) : sameS n f m g = sameS m g n f := by
  unfold sameS
  rw [decide_eq_decide]
  constructor
  · rintro ⟨rfl, h⟩; exact ⟨rfl, fun i hi => (h i hi).symm⟩
  · rintro ⟨rfl, h⟩; exact ⟨rfl, fun i hi => (h i hi).symm⟩

theorem arraysEqual2 (A : Option Addr) (n c : Nat) (AA : Nat → Option Addr) (nn cc : Nat → Nat) (ff : Nat → Nat → ByteArray) (A' : Option Addr) (m d : Nat) (AA' : Nat → Option Addr) (mm dd : Nat → Nat) (gg : Nat → Nat → ByteArray) (B B' : Nat) (w : World)
    (h : Rows2 w B A n AA nn cc ff) (h' : Rows2 w B' A' m AA' mm dd gg) (hn : n ≤ 1048576) (hm : m ≤ 1048576) :
    Calls Try.prog 13 #[.slice A n c, .slice A' m d] w fun e w' => e = .returned (.bool (same2 n nn ff m mm gg)) ∧ w = w' := by
  have H := Lib.hid h
  have H' := Lib.hid h'
  clear h h'
  by_cases hnm : n = m
  · subst hnm
    go_enter Try.func13, Try.ntmps13
    go_wp2_with fail
    go_loopg [14] n (fun gh z wr => w = wr ∧ ∃ k : Nat, k ≤ n ∧ gh = n - k ∧ z = .int .i64 k ∧ ∀ i, i < k → sameS (nn i) (ff i) (mm i) (gg i) = true)
    case atStart => exact ⟨rfl, 0, Nat.zero_le _, rfl, rfl, fun i hi => absurd hi (by omega)⟩
    case round =>
      obtain ⟨rfl, k, hk, rfl, rfl, hs⟩ := hrel
      have HS := Lib.hid hs
      clear hs
      by_cases hlt : k < n
      · obtain ⟨b, o, rfl, hb, hc⟩ := H.out.out.at_ hlt
        obtain ⟨b', o', rfl, hb', hc'⟩ := H'.out.out.at_ hlt
        have HC := Lib.hid (arraysEqual (AA k) (nn k) (cc k) (ff k) (AA' k) (mm k) (dd k) (gg k) B B' w (H.out.inn k hlt) (H'.out.inn k hlt) (H.out.bnd k hlt) (H'.out.bnd k hlt))
        cases hv : sameS (nn k) (ff k) (mm k) (gg k)
        · rw [hv] at HC
          have HV := Lib.hid (show same2 n nn ff n mm gg = false by unfold same2; exact decide_eq_false fun h => by have := h.2 k hlt; rw [hv] at this; cases this)
          clear hv
          go_wp2_with (go_at_call 8; refine HC.out.mono ?_; rintro e w' ⟨rfl, rfl⟩)
          go_ret
          exact ⟨ret_boolv HV.out, rfl⟩
        · rw [hv] at HC
          have HV := Lib.hid hv
          clear hv
          go_wp2_with (go_at_call 8; refine HC.out.mono ?_; rintro e w' ⟨rfl, rfl⟩)
          go_roundg (n - (k + 1))
          case rel =>
            refine ⟨rfl, k + 1, by omega, rfl, by go_num, fun i hi => ?_⟩
            by_cases e : i = k
            · subst e; exact HV.out
            · exact HS.out i (by omega)
          case measure => omega
      · have HV := Lib.hid (show same2 n nn ff n mm gg = true by unfold same2; exact decide_eq_true ⟨rfl, fun i hi => HS.out i (by omega)⟩)
        go_wp2_with fail
        go_ret
        exact ⟨ret_boolv HV.out, rfl⟩
  · have hne : ((n : Int) != (m : Int)) = true := by simp; omega
    have HV := Lib.hid (show same2 n nn ff m mm gg = false by unfold same2; exact decide_eq_false fun h => hnm h.1)
    clear hnm
    go_enter Try.func13, Try.ntmps13
    go_wp2_with fail
    go_ret
    exact ⟨ret_boolv HV.out, rfl⟩
theorem arraysEqual2v (v : Bool) (A : Option Addr) (n c : Nat) (AA : Nat → Option Addr) (nn cc : Nat → Nat) (ff : Nat → Nat → ByteArray) (A' : Option Addr) (m d : Nat) (AA' : Nat → Option Addr) (mm dd : Nat → Nat) (gg : Nat → Nat → ByteArray) (B B' : Nat) (w : World)
    (h : Rows2 w B A n AA nn cc ff) (h' : Rows2 w B' A' m AA' mm dd gg) (hn : n ≤ 1048576) (hm : m ≤ 1048576) (hv : same2 n nn ff m mm gg = v) :
    Calls Try.prog 13 #[.slice A n c, .slice A' m d] w fun e w' => e = .returned (.bool v) ∧ w = w' := by
  rw [← hv]; exact arraysEqual2 A n c AA nn cc ff A' m d AA' mm dd gg B B' w h h' hn hm

def tot2 (nn : Nat → Nat) (ff : Nat → Nat → ByteArray) : Nat → Nat
  | 0 => 0
  | k + 1 => tot2 nn ff k + (nn k + tot (ff k) (nn k))
theorem tot2_mono (nn : Nat → Nat) (ff : Nat → Nat → ByteArray) {k n : Nat} (h : k ≤ n) : tot2 nn ff k ≤ tot2 nn ff n := by
  induction n with
  | zero => obtain rfl : k = 0 := by omega
            exact Nat.le_refl _
  | succ n ih =>
    by_cases e : k = n + 1
    · subst e; exact Nat.le_refl _
    · have := ih (by omega); simp only [tot2]; omega
theorem tot2_at (nn : Nat → Nat) (ff : Nat → Nat → ByteArray) {k n : Nat} (h : k < n) : tot2 nn ff k + (nn k + tot (ff k) (nn k)) ≤ tot2 nn ff n := tot2_mono nn ff (show k + 1 ≤ n from h)

def SomeInt (w : World) (e : Ending) (w' : World) : Prop := ∃ r : Int, e = .returned (.int .i64 r) ∧ w = w' ∧ 0 ≤ r ∧ r ≤ 1048577
theorem strBytes2 (A : Option Addr) (n c : Nat) (AA : Nat → Option Addr) (nn cc : Nat → Nat) (ff : Nat → Nat → ByteArray) (B : Nat) (w : World) (h : Rows2 w B A n AA nn cc ff) (hn : n + tot2 nn ff n ≤ 1048576) : Calls Try.prog 11 #[.slice A n c] w (SomeInt w) := by
  have H := Lib.hid h
  clear h
  go_enter Try.func11, Try.ntmps11
  go_wp2_with fail
  go_loopg [3, 4] n (fun g s z wr => w = wr ∧ ∃ k T : Nat, k ≤ n ∧ g = n - k ∧ s = .int .i64 (T : Int) ∧ T ≤ 1048576 ∧ z = .int .i64 k)
  case atStart => exact ⟨rfl, 0, 0, Nat.zero_le _, rfl, rfl, by omega, rfl⟩
  case round =>
    obtain ⟨rfl, k, T, hk, rfl, rfl, hT, rfl⟩ := hrel
    by_cases hlt : k < n
    · obtain ⟨b, o, rfl, hb, hc⟩ := H.out.out.at_ hlt
      have ht := tot2_at nn ff hlt
      go_wp2_with fail
      refine (strBytes _ _ _ (ff k) _ _ (H.out.inn k hlt) (by omega)).mono ?_
      rintro e w' ⟨r, rfl, rfl, hr0, hr1, hr2⟩
      clear hr2
      obtain ⟨R, rfl⟩ : ∃ R : Nat, r = (R : Int) := ⟨r.toNat, by omega⟩
      by_cases g2 : T + (24 + R) ≤ 1048576
      · go_wp2_with fail
        go_roundg (n - (k + 1))
        case rel => exact ⟨rfl, k + 1, T + (24 + R), by omega, rfl, by go_num, by omega, by go_num⟩
        case measure => omega
      · go_wp2_with fail
        go_ret
        exact ⟨_, rfl, rfl, by omega, by omega⟩
    · go_wp2_with fail
      go_ret
      exact ⟨_, rfl, rfl, by omega, by omega⟩

def Cloned2 (n : Nat) (nn : Nat → Nat) (ff : Nat → Nat → ByteArray) (w : World) (e : Ending) (w' : World) : Prop :=
  ∃ A c AA cc, e = .returned (.slice A n c) ∧ Rows2 w' w'.heap.size A n AA nn cc ff ∧ Below w.heap.size w w'
set_option maxHeartbeats 1000000 in
theorem clone2 (A : Option Addr) (n c : Nat) (AA : Nat → Option Addr) (nn cc : Nat → Nat) (ff : Nat → Nat → ByteArray) (w : World) (h : Rows2 w w.heap.size A n AA nn cc ff) (hn : n ≤ 1048576) : Calls Try.prog 12 #[.slice A n c] w (Cloned2 n nn ff w) := by
  have hmk := run_make_at (P := Try.prog) 27 22 (.slice none 0 0) 24 Try.underlying27 Try.info22 rfl .i64 .i64 n (n : Int) rfl (by omega) (by omega)
  have hnil := fun w => Lib.run_eql_slice_nil (P := Try.prog) w 27 22 A n c 0 0 Try.underlying27
  rcases A with _ | ad
  · have hn0 : n = 0 := by
      rcases Nat.eq_zero_or_pos n with h0 | h0
      · exact h0
      · obtain ⟨b, o, e, _⟩ := h.out h0; cases e
    subst hn0
    clear hmk
    go_enter Try.func12, Try.ntmps12
    go_wp2
    go_ret
    exact ⟨_, _, fun _ => none, fun _ => 0, rfl, ⟨fun h => absurd h (by omega), fun i hi => absurd hi (by omega), fun i hi => absurd hi (by omega)⟩, Below.refl _ _⟩
  · have H := Lib.hid h
    clear h
    go_enter Try.func12, Try.ntmps12
    go_wp2_with fail
    clear hmk hnil
    go_loopg [4] n (fun g i wr => ∃ (k : Nat) (AX : Nat → Option Addr) (cx : Nat → Nat), k ≤ n ∧ g = n - k ∧ i = .int .i64 k ∧ wr.rowIs w.heap.size 22 n (fun j => if j < k then .slice (AX j) (nn j) (cx j) else .slice none 0 0) ∧ (∀ j, j < k → RowF wr wr.heap.size (AX j) (nn j) (fun q => .string (ff j q)) ∧ ∀ b o, AX j = some ⟨b, o, none⟩ → b ≠ w.heap.size) ∧ Below w.heap.size w wr)
    case atStart => exact ⟨0, fun _ => none, fun _ => 0, Nat.zero_le _, rfl, rfl, (World.rowIs_made w _ n 22).congr (fun j _ => by simp), fun j hj => absurd hj (by omega), (Below.refl _ _).alloc (Nat.le_refl _) _⟩
    case round =>
      obtain ⟨k, AX, cx, hk, rfl, rfl, hrow, hin, hbel⟩ := hrel
      by_cases hlt : k < n
      · obtain ⟨b, o, e, hb, hc⟩ := H.out.out.at_ hlt
        injection e with e
        subst e
        have hc' : wr.cell? ⟨b, o + k, none⟩ = some (.slice (AA k) (nn k) (cc k)) := (hbel.cell (p := ⟨b, o + k, none⟩) hb).trans hc
        have HROW := Lib.hid hrow
        have HIN := Lib.hid hin
        have HB := Lib.hid hbel
        have HK := Lib.hid (((H.out.inn k hlt).below hbel).more hbel.size)
        have hgl := hrow.lt
        clear hc hrow hin hbel
        go_wp2_with fail
        refine (cloneN _ _ _ (ff k) _ HK.out (H.out.bnd k hlt)).mono ?_
        rintro e wx ⟨Ak, ck, rfl, hcc, hrk, hbk, hnew⟩
        have HNEW := Lib.hid hnew
        have HRK := Lib.hid hrk
        have HBK := Lib.hid hbk
        have r1 := HROW.out.of_block (hbk.block _ hgl)
        have hst := r1.cell hlt
        have hfz := r1.frozen k
        rw [if_neg (by omega)] at hst
        have HR1 := Lib.hid r1
        clear hrk hbk hc' r1 hnew
        go_wp2_with fail
        go_roundg (n - (k + 1))
        case rel =>
          have hks := HBK.out.size
          refine ⟨k + 1, fun j => if j = k then Ak else AX j, fun j => if j = k then ck else cx j, by omega, rfl, by go_num, (HR1.out.set k _).congr (fun j _ => ?_), fun j hj => ?_, (HB.out.trans (HBK.out.mono HB.out.size)).setCell (Nat.le_refl _) _⟩
          · by_cases e1 : j = k
            · subst e1; simp
            · by_cases e2 : j < k
              · simp [e1, e2, show j < k + 1 by omega]
              · simp [e1, e2, show ¬ j < k + 1 by omega]
          · by_cases e1 : j = k
            · subst e1
              simp only [if_pos]
              refine ⟨fun hp => ?_, fun b o hA => by have := HNEW.out _ hA; simp at this; omega⟩
              obtain ⟨b, o, hA, hbl, hcl⟩ := HRK.out hp
              have hb2 := HNEW.out _ hA
              refine ⟨b, o, hA, by simpa [World.setCell] using hbl, fun q hq => ?_⟩
              rw [World.cell?_setCell_other _ _ _ _ (fun e => by have := congrArg Addr.block e; simp at this hb2; omega)]
              exact hcl q hq
            · simp only [if_neg e1]
              obtain ⟨hr, hne⟩ := HIN.out j (by omega)
              refine ⟨fun hp => ?_, hne⟩
              obtain ⟨b, o, hA, hbl, hcl⟩ := (hr.below HBK.out).more hks hp
              refine ⟨b, o, hA, by simpa [World.setCell] using hbl, fun q hq => ?_⟩
              rw [World.cell?_setCell_other _ _ _ _ (fun e => by have := congrArg Addr.block e; simp at this; exact hne b o hA this.symm)]
              exact hcl q hq
        case measure => omega
      · have hkn : k = n := by omega
        have HROW := Lib.hid hrow
        have HIN := Lib.hid hin
        have HB := Lib.hid hbel
        clear hrow hin hbel
        go_wp2_with fail
        go_ret
        refine ⟨_, _, AX, cx, rfl, ⟨RowF.of_rowIs (HROW.out.congr fun j hj => by rw [if_pos (by omega)]) (Nat.le_refl _) HROW.out.lt, fun i hi => (HIN.out i (by omega)).1, H.out.bnd⟩, HB.out⟩
end Go.Proofs.Ytnifibidbldneaa
