/- StringToMsgIDs: which numbers a name sets (printed by genPi.py). -/
import Derived.Test.YtippmlajjkdblaaPh
import Derived.Maps.Ext
import Derived.Maps.RangeWalk
import Derived.Maps.OwnSet
import Derived.Maps.OwnOps
namespace Go.Proofs.Ytippmlajjkdblaa
open Go.RowKit Go.Maps
set_option linter.unusedVariables false
set_option linter.unusedSimpArgs false
theorem lawI : Keyed Try.prog 5 := int_keyed Try.underlying5
/-- Map b, as the numbers' map reads. -/
def Ids (w : World) (b n : Nat) (D : DataW Unit) : Prop := w.ownsMap Try.prog 5 (plainElem Try.prog 72) b n D
theorem updK {w : World} {b n : Nat} {D : DataW Unit} (h : Ids w b n D) (hn : n ≤ 1000) (k : Int) (hk : 0 ≤ k) (hk2 : k ≤ 255) :
    ∃ x, (Instr.mapUpdate 69 (.map (some b)) (.int .u8 k) (.int .i8 3)).run Try.prog w = .ok () x ∧ Ids x b (n + 1) (D.put (.int .u8 k) (.lit (.int .i8 3))) ∧ w.grownBy x (some b) := by
  have hwk : (Lit.int .u8 k).wf = true := by
    simp [Lit.wf, IntKind.min, IntKind.max, IntKind.bits, IntKind.signed]
    omega
  exact World.ownsMap.update h lawI Try.underlying69 (by unfold maxLen; omega) (keyOf_int_mk Try.underlying5 hwk) (plainElem_int Try.underlying72 (by decide))
def oneD (k : Int) : DataW Unit := (DataW.map []).put (.int .u8 k) (.lit (.int .i8 3))
def runD (a : Int) : Nat → DataW Unit
  | 0 => .map []
  | k + 1 => (runD a k).put (.int .u8 (a + k)) (.lit (.int .i8 3))
def idD (s : List UInt8) : DataW Unit :=
  if s == [97, 115, 115, 101, 114, 116, 45, 116, 111, 45, 119, 105, 116, 104] then oneD 1 else
  if s == [97, 115, 115, 101, 114, 116, 45, 116, 121, 112, 101, 45, 106, 115, 111, 110] then oneD 2 else
  if s == [97, 115, 115, 105, 103, 110, 45, 116, 111, 45, 99, 111, 110, 115, 116, 97, 110, 116] then oneD 3 else
  if s == [97, 115, 115, 105, 103, 110, 45, 116, 111, 45, 100, 101, 102, 105, 110, 101] then oneD 4 else
  if s == [97, 115, 115, 105, 103, 110, 45, 116, 111, 45, 105, 109, 112, 111, 114, 116] then oneD 5 else
  if s == [98, 105, 103, 105, 110, 116] then oneD 6 else
  if s == [99, 97, 108, 108, 45, 105, 109, 112, 111, 114, 116, 45, 110, 97, 109, 101, 115, 112, 97, 99, 101] then oneD 7 else
  if s == [99, 108, 97, 115, 115, 45, 110, 97, 109, 101, 45, 119, 105, 108, 108, 45, 116, 104, 114, 111, 119] then oneD 8 else
  if s == [99, 111, 109, 109, 111, 110, 106, 115, 45, 118, 97, 114, 105, 97, 98, 108, 101, 45, 105, 110, 45, 101, 115, 109] then oneD 9 else
  if s == [99, 111, 110, 102, 117, 115, 105, 110, 103, 45, 116, 121, 112, 101, 115, 99, 114, 105, 112, 116, 45, 99, 97, 115, 116] then oneD 10 else
  if s == [100, 101, 108, 101, 116, 101, 45, 115, 117, 112, 101, 114, 45, 112, 114, 111, 112, 101, 114, 116, 121] then oneD 11 else
  if s == [100, 105, 114, 101, 99, 116, 45, 101, 118, 97, 108] then oneD 12 else
  if s == [100, 117, 112, 108, 105, 99, 97, 116, 101, 45, 99, 97, 115, 101] then oneD 13 else
  if s == [100, 117, 112, 108, 105, 99, 97, 116, 101, 45, 99, 108, 97, 115, 115, 45, 109, 101, 109, 98, 101, 114] then oneD 14 else
  if s == [100, 117, 112, 108, 105, 99, 97, 116, 101, 45, 111, 98, 106, 101, 99, 116, 45, 107, 101, 121] then oneD 15 else
  if s == [101, 109, 112, 116, 121, 45, 105, 109, 112, 111, 114, 116, 45, 109, 101, 116, 97] then oneD 16 else
  if s == [101, 113, 117, 97, 108, 115, 45, 110, 97, 110] then oneD 17 else
  if s == [101, 113, 117, 97, 108, 115, 45, 110, 101, 103, 97, 116, 105, 118, 101, 45, 122, 101, 114, 111] then oneD 18 else
  if s == [101, 113, 117, 97, 108, 115, 45, 110, 101, 119, 45, 111, 98, 106, 101, 99, 116] then oneD 19 else
  if s == [104, 116, 109, 108, 45, 99, 111, 109, 109, 101, 110, 116, 45, 105, 110, 45, 106, 115] then oneD 20 else
  if s == [105, 109, 112, 111, 115, 115, 105, 98, 108, 101, 45, 116, 121, 112, 101, 111, 102] then oneD 21 else
  if s == [105, 110, 100, 105, 114, 101, 99, 116, 45, 114, 101, 113, 117, 105, 114, 101] then oneD 22 else
  if s == [112, 114, 105, 118, 97, 116, 101, 45, 110, 97, 109, 101, 45, 119, 105, 108, 108, 45, 116, 104, 114, 111, 119] then oneD 23 else
  if s == [115, 101, 109, 105, 99, 111, 108, 111, 110, 45, 97, 102, 116, 101, 114, 45, 114, 101, 116, 117, 114, 110] then oneD 24 else
  if s == [115, 117, 115, 112, 105, 99, 105, 111, 117, 115, 45, 98, 111, 111, 108, 101, 97, 110, 45, 110, 111, 116] then oneD 25 else
  if s == [115, 117, 115, 112, 105, 99, 105, 111, 117, 115, 45, 100, 101, 102, 105, 110, 101] then oneD 26 else
  if s == [115, 117, 115, 112, 105, 99, 105, 111, 117, 115, 45, 108, 111, 103, 105, 99, 97, 108, 45, 111, 112, 101, 114, 97, 116, 111, 114] then oneD 27 else
  if s == [115, 117, 115, 112, 105, 99, 105, 111, 117, 115, 45, 110, 117, 108, 108, 105, 115, 104, 45, 99, 111, 97, 108, 101, 115, 99, 105, 110, 103] then oneD 28 else
  if s == [116, 104, 105, 115, 45, 105, 115, 45, 117, 110, 100, 101, 102, 105, 110, 101, 100, 45, 105, 110, 45, 101, 115, 109] then oneD 29 else
  if s == [117, 110, 115, 117, 112, 112, 111, 114, 116, 101, 100, 45, 100, 121, 110, 97, 109, 105, 99, 45, 105, 109, 112, 111, 114, 116] then oneD 30 else
  if s == [117, 110, 115, 117, 112, 112, 111, 114, 116, 101, 100, 45, 106, 115, 120, 45, 99, 111, 109, 109, 101, 110, 116] then oneD 31 else
  if s == [117, 110, 115, 117, 112, 112, 111, 114, 116, 101, 100, 45, 114, 101, 103, 101, 120, 112] then oneD 32 else
  if s == [117, 110, 115, 117, 112, 112, 111, 114, 116, 101, 100, 45, 114, 101, 113, 117, 105, 114, 101, 45, 99, 97, 108, 108] then oneD 33 else
  if s == [99, 115, 115, 45, 115, 121, 110, 116, 97, 120, 45, 101, 114, 114, 111, 114] then oneD 34 else
  if s == [105, 110, 118, 97, 108, 105, 100, 45, 64, 99, 104, 97, 114, 115, 101, 116] then oneD 35 else
  if s == [105, 110, 118, 97, 108, 105, 100, 45, 64, 105, 109, 112, 111, 114, 116] then oneD 36 else
  if s == [105, 110, 118, 97, 108, 105, 100, 45, 64, 108, 97, 121, 101, 114] then oneD 37 else
  if s == [105, 110, 118, 97, 108, 105, 100, 45, 99, 97, 108, 99] then oneD 38 else
  if s == [106, 115, 45, 99, 111, 109, 109, 101, 110, 116, 45, 105, 110, 45, 99, 115, 115] then oneD 39 else
  if s == [117, 110, 100, 101, 102, 105, 110, 101, 100, 45, 99, 111, 109, 112, 111, 115, 101, 115, 45, 102, 114, 111, 109] then oneD 40 else
  if s == [117, 110, 115, 117, 112, 112, 111, 114, 116, 101, 100, 45, 64, 99, 104, 97, 114, 115, 101, 116] then oneD 41 else
  if s == [117, 110, 115, 117, 112, 112, 111, 114, 116, 101, 100, 45, 64, 110, 97, 109, 101, 115, 112, 97, 99, 101] then oneD 42 else
  if s == [117, 110, 115, 117, 112, 112, 111, 114, 116, 101, 100, 45, 99, 115, 115, 45, 112, 114, 111, 112, 101, 114, 116, 121] then oneD 43 else
  if s == [117, 110, 115, 117, 112, 112, 111, 114, 116, 101, 100, 45, 99, 115, 115, 45, 110, 101, 115, 116, 105, 110, 103] then oneD 44 else
  if s == [97, 109, 98, 105, 103, 117, 111, 117, 115, 45, 114, 101, 101, 120, 112, 111, 114, 116] then oneD 45 else
  if s == [100, 105, 102, 102, 101, 114, 101, 110, 116, 45, 112, 97, 116, 104, 45, 99, 97, 115, 101] then oneD 46 else
  if s == [101, 109, 112, 116, 121, 45, 103, 108, 111, 98] then oneD 47 else
  if s == [105, 103, 110, 111, 114, 101, 100, 45, 98, 97, 114, 101, 45, 105, 109, 112, 111, 114, 116] then oneD 48 else
  if s == [105, 103, 110, 111, 114, 101, 100, 45, 100, 121, 110, 97, 109, 105, 99, 45, 105, 109, 112, 111, 114, 116] then oneD 49 else
  if s == [105, 109, 112, 111, 114, 116, 45, 105, 115, 45, 117, 110, 100, 101, 102, 105, 110, 101, 100] then oneD 50 else
  if s == [114, 101, 113, 117, 105, 114, 101, 45, 114, 101, 115, 111, 108, 118, 101, 45, 110, 111, 116, 45, 101, 120, 116, 101, 114, 110, 97, 108] then oneD 51 else
  if s == [105, 110, 118, 97, 108, 105, 100, 45, 115, 111, 117, 114, 99, 101, 45, 109, 97, 112, 112, 105, 110, 103, 115] then oneD 52 else
  if s == [109, 105, 115, 115, 105, 110, 103, 45, 115, 111, 117, 114, 99, 101, 45, 109, 97, 112] then oneD 53 else
  if s == [117, 110, 115, 117, 112, 112, 111, 114, 116, 101, 100, 45, 115, 111, 117, 114, 99, 101, 45, 109, 97, 112, 45, 99, 111, 109, 109, 101, 110, 116] then oneD 54 else
  if s == [112, 97, 99, 107, 97, 103, 101, 46, 106, 115, 111, 110] then runD 55 7 else
  if s == [116, 115, 99, 111, 110, 102, 105, 103, 46, 106, 115, 111, 110] then runD 62 9 else
  .map []
theorem Ids.mono {w : World} {b n m : Nat} {D : DataW Unit} (h : Ids w b n D) (hn : n ≤ m) : Ids w b m D := World.ownsMap.mono h hn
set_option maxRecDepth 100000 in
set_option maxHeartbeats 16000000 in
theorem stringToIds (s : ByteArray) (w : World) (b : Nat) (h : Ids w b 0 (.map [])) : Calls Try.prog 20 #[.string s, .int .i8 3, .map (some b)] w fun e w' => e = .returned (.tuple #[]) ∧ Ids w' b 20 (idD s.toList) ∧ w.grownBy w' (some b) := by
  have hU : ∀ k : Int, ∃ x, 0 ≤ k → k ≤ 255 → (Instr.mapUpdate 69 (.map (some b)) (.int .u8 k) (.int .i8 3)).run Try.prog w = .ok () x ∧ Ids x b 1 (oneD k) ∧ w.grownBy x (some b) := fun k => by
    by_cases h1 : 0 ≤ k ∧ k ≤ 255
    · obtain ⟨x, hx⟩ := updK h (by omega) k h1.1 h1.2
      exact ⟨x, fun _ _ => hx⟩
    · exact ⟨w, fun a b => absurd ⟨a, b⟩ h1⟩
  obtain ⟨X, hX⟩ := Classical.axiomOfChoice hU
  have hr : ∀ k : Int, 0 ≤ k → k ≤ 255 → (Instr.mapUpdate 69 (.map (some b)) (.int .u8 k) (.int .i8 3)).run Try.prog w = .ok () (X k) := fun k h1 h2 => (hX k h1 h2).1
  have HX : Hid (∀ k : Int, 0 ≤ k → k ≤ 255 → Ids (X k) b 1 (oneD k) ∧ w.grownBy (X k) (some b)) := Lib.hid fun k h1 h2 => (hX k h1 h2).2
  have H := Lib.hid h
  clear hX hU h
  go_enter Try.func20, Try.ntmps20
  go_wp2_with fail
  all_goals first
    | (go_end0
       refine ⟨rfl, ?_, (HX.out _ (by decide) (by decide)).2⟩
       refine Ids.mono (n := 1) ?_ (by decide)
       simp only [idD, *, if_true, if_false, Bool.false_eq_true]
       exact (HX.out _ (by decide) (by decide)).1)
    | (go_end0
       refine ⟨rfl, ?_, World.grownBy.refl w _⟩
       refine Ids.mono (n := 0) ?_ (by decide)
       simp only [idD, *, if_true, if_false, Bool.false_eq_true]
       exact H.out)
    | skip
  · have hD : idD s.toList = runD 55 7 := by simp only [idD, *, if_true, if_false, Bool.false_eq_true]
    clear hr
    go_loopg [6] 7 (fun q i wr => ∃ k : Nat, k ≤ 7 ∧ q = 7 - k ∧ i = .int .u8 (55 + (k : Int)) ∧ Hid (Ids wr b k (runD 55 k)) ∧ Hid (w.grownBy wr (some b)))
    case atStart => exact ⟨0, Nat.zero_le _, rfl, rfl, H, Lib.hid (World.grownBy.refl w _)⟩
    case round =>
      obtain ⟨k, hk, rfl, rfl, HM, HG⟩ := hrel
      by_cases hlt : k < 7
      · obtain ⟨x, hr, hx, hg⟩ := updK HM.out (by omega) (55 + (k : Int)) (by omega) (by omega)
        have HX1 : Hid (Ids x b (k + 1) (runD 55 (k + 1))) := Lib.hid hx
        have HG1 := Lib.hid (grown_trans HG.out hg)
        clear hx hg
        go_wp2_with fail
        go_roundg (7 - (k + 1))
        case rel => exact ⟨k + 1, by omega, rfl, by rw [show (55 : Int) + (k : Int) + 1 = 55 + ((k + 1 : Nat) : Int) by omega], HX1, HG1⟩
        case measure => omega
      · have hkk : k = 7 := by omega
        subst hkk
        go_wp2_with fail
        go_end0
        exact ⟨rfl, (by rw [hD]; exact HM.out.mono (by decide)), HG.out⟩
  · have hD : idD s.toList = runD 62 9 := by simp only [idD, *, if_true, if_false, Bool.false_eq_true]
    clear hr
    go_loopg [7] 9 (fun q i wr => ∃ k : Nat, k ≤ 9 ∧ q = 9 - k ∧ i = .int .u8 (62 + (k : Int)) ∧ Hid (Ids wr b k (runD 62 k)) ∧ Hid (w.grownBy wr (some b)))
    case atStart => exact ⟨0, Nat.zero_le _, rfl, rfl, H, Lib.hid (World.grownBy.refl w _)⟩
    case round =>
      obtain ⟨k, hk, rfl, rfl, HM, HG⟩ := hrel
      by_cases hlt : k < 9
      · obtain ⟨x, hr, hx, hg⟩ := updK HM.out (by omega) (62 + (k : Int)) (by omega) (by omega)
        have HX1 : Hid (Ids x b (k + 1) (runD 62 (k + 1))) := Lib.hid hx
        have HG1 := Lib.hid (grown_trans HG.out hg)
        clear hx hg
        go_wp2_with fail
        go_roundg (9 - (k + 1))
        case rel => exact ⟨k + 1, by omega, rfl, by rw [show (62 : Int) + (k : Int) + 1 = 62 + ((k + 1 : Nat) : Int) by omega], HX1, HG1⟩
        case measure => omega
      · have hkk : k = 9 := by omega
        subst hkk
        go_wp2_with fail
        go_end0
        exact ⟨rfl, (by rw [hD]; exact HM.out.mono (by decide)), HG.out⟩
end Go.Proofs.Ytippmlajjkdblaa
