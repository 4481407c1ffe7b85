/- fmt.Sprintf at "%q" and one string: what the told text is. -/
import Derived.Test.YtcjbnieeoggfkaaFmtRows
import Derived.Test.YtcjbnieeoggfkaaFmtQm
import Derived.Stop.CallBack
import Derived.Stop.IfaceNil
import Derived.Stop.Told
import Derived.Stop.Texts
import Derived.Stop.FmtTextKit
import Derived.Stop.FmtTextVerbs
import GoSem.ClaimData
namespace Go.Proofs.YtcjbnieeoggfkaaFmt
open Go.Extern.Stop Go.Stop Go.Extern
set_option linter.unusedVariables false

@[go_sem] theorem Tryf.callS (args : Array Value) (w : World) : (callFunc 11 args).run Tryf.prog w = ((FmtStop.sprintf #[9, 56] #[9] args).run Tryf.prog w).andThen fun v w' => .ok (.value v) w' :=
  run_callFunc_extern Tryf.func11 (by kernel_rfl) (by kernel_rfl) (by kernel_rfl) (by kernel_rfl) args w
@[go_sem] theorem Tryf.guard (name : String) (w : World) : (FmtStop.guard name).run Tryf.prog w = .ok () w := by kernel_rfl
@[go_sem] theorem Tryf.fmtq : FmtStop.printed? ⟨#[37, 113]⟩ 1 = some [(0, 113, false)] := by kernel_rfl
@[go_sem] theorem Tryf.fmtqr (w : World) : (FmtDoors.printed ⟨#[37, 113]⟩ 1).run Tryf.prog w = .ok [(0, 113, false)] w := by kernel_rfl
def shapeS : List UInt8 := [12, 6, 0, 0, 0, 0, 0, 0, 0, 115, 116, 114, 105, 110, 103]
@[go_sem] theorem Tryf.op_113 (name : String) (x : ByteArray) (w : World) : (FmtStop.operand name false 113 false (.iface 9 (.string x))).run Tryf.prog w = .ok (shapeS, FmtStop.pack x.data.toList) w := by kernel_rfl

def qReading (s : List UInt8) : List (List UInt8) := [[37, 113], shapeS, FmtStop.pack s]
theorem q_parse : (FmtText.parse [37, 113]).map FmtText.glue = some [.verb {} 113] := by rfl
theorem q_text (s : List UInt8) (hs : s.length < 2 ^ 64) : FmtText.text "fmt.Sprintf" (qReading s) = some (FmtText.quote false s) := by
  have hn := FmtText.operand_str_at (sh := shapeS) rfl rfl s hs
  rw [qReading, FmtText.text_sprintf_glued q_parse (FmtText.operands_cons hn FmtText.operands_nil)]
  simp [FmtText.render, FmtText.printArg_q_str]
theorem q_told (F : Interp) (s : ByteArray) (hs : ∀ i, i < s.size → s.get! i < 128) (hl : s.size ≤ 1048576) : FmtStop.textOf (F.told "fmt.Sprintf" (qReading s.data.toList) 0) = ⟨(quo s).toArray⟩ := by
  have e := quote_ascii s hs
  have ht := q_text s.data.toList (by simp; omega)
  rw [e] at ht
  have hq : (quo s).length < 2 ^ 63 := by
    have := escs_len s.data.toList
    have hz : s.data.toList.length = s.size := by simp
    simp only [quo, List.length_cons, List.length_append, List.length_nil]
    omega
  have hr := told_string F ht hq
  have hx := Kit.textOf_list F.told "fmt.Sprintf" (qReading s.data.toList)
  rw [hr] at hx
  generalize FmtStop.textOf (F.told "fmt.Sprintf" (qReading s.data.toList) 0) = t at hx ⊢
  rcases t with ⟨⟨t⟩⟩
  simp at hx
  rw [hx]
end Go.Proofs.YtcjbnieeoggfkaaFmt
