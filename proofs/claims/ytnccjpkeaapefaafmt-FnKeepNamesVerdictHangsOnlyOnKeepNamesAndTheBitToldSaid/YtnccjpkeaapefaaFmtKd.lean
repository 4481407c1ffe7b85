/- PrettyPrintTargetEnvironment: some text. -/
import Derived.Test.YtnccjpkeaapefaaFmtKc
import Derived.Deep.LoopGhost
import Derived.Stop.CallBack
import Derived.Stop.IfaceNil
import Derived.Stop.Told
import Derived.Stop.Texts
import GoSem.ClaimData
namespace Go.Proofs.YtnccjpkeaapefaaFmt
open Go.RowKit Go.Extern.Stop Go.Stop Go.Extern
set_option linter.unusedVariables false
set_option linter.unusedSimpArgs false

@[go_sem] theorem Tryf.callS (args : Array Value) (w : World) : (callFunc 19 args).run Tryf.prog w = ((FmtStop.sprintf #[9, 218] #[9] args).run Tryf.prog w).andThen fun v w' => .ok (.value v) w' :=
  run_callFunc_extern Tryf.func19 (by kernel_rfl) (by kernel_rfl) (by kernel_rfl) (by kernel_rfl) args w
@[go_sem] theorem Tryf.guard (name : String) (w : World) : (FmtStop.guard name).run Tryf.prog w = .ok () w := by kernel_rfl
@[go_sem] theorem Tryf.fmtA : FmtStop.printed? ⟨#[32, 43, 32, 37, 100, 32, 111, 118, 101, 114, 114, 105, 100, 101, 37, 115]⟩ 2 = some [(0, 100, false), (1, 115, false)] := by kernel_rfl
@[go_sem] theorem Tryf.fmtAr (w : World) : (FmtDoors.printed ⟨#[32, 43, 32, 37, 100, 32, 111, 118, 101, 114, 114, 105, 100, 101, 37, 115]⟩ 2).run Tryf.prog w = .ok [(0, 100, false), (1, 115, false)] w := by kernel_rfl
@[go_sem] theorem Tryf.fmtB : FmtStop.printed? ⟨#[37, 115, 32, 40, 37, 115, 37, 115, 41]⟩ 3 = some [(0, 115, false), (1, 115, false), (2, 115, false)] := by kernel_rfl
@[go_sem] theorem Tryf.fmtBr (w : World) : (FmtDoors.printed ⟨#[37, 115, 32, 40, 37, 115, 37, 115, 41]⟩ 3).run Tryf.prog w = .ok [(0, 115, false), (1, 115, false), (2, 115, false)] w := by kernel_rfl
def shapeS : List UInt8 := [12, 6, 0, 0, 0, 0, 0, 0, 0, 115, 116, 114, 105, 110, 103]
def shapeI : List UInt8 := [5, 3, 0, 0, 0, 0, 0, 0, 0, 105, 110, 116]
@[go_sem] theorem Tryf.op_115 (name : String) (x : ByteArray) (w : World) : (FmtStop.operand name false 115 false (.iface 9 (.string x))).run Tryf.prog w = .ok (shapeS, FmtStop.pack x.data.toList) w := by kernel_rfl
@[go_sem] theorem Tryf.op_100 (name : String) (x : Int) (w : World) : (FmtStop.operand name false 100 false (.iface 3 (.int .i64 x))).run Tryf.prog w = .ok (shapeI, Go.Extern.Stop.digits 8 (x % 2 ^ 64).toNat) w := by kernel_rfl

set_option maxHeartbeats 4000000 in
theorem prettyEnv (F : Interp) (s : ByteArray) (m : Nat) (w : World) (hF : F.told.answers w.tape) :
    Calls Tryf.prog 17 #[.string s, .int .u64 m] w fun e w' => ∃ t, e = .returned (.string t) ∧ Below w.heap.size w w' := by
  have HF := Lib.hid hF
  have hF' := answers_open hF
  clear hF
  by_cases hm : m = 0
  · subst hm
    go_enter Tryf.func17, Tryf.ntmps17
    go_wp2
    all_goals go_ret
    all_goals refine ⟨_, rfl, ?_⟩
    all_goals repeat' (first | exact Below.refl _ _ | refine below_alloc ?_ _ | refine Below.drew ?_)
  · have hmz : ((m : Int) != 0) = true := by simp; omega
    go_enter Tryf.func17, Tryf.ntmps17
    go_wp2
    go_loopg [6, 7] m (fun g a b wr => w = wr ∧ ∃ (c : Int) (k : Nat), k = g ∧ a = .int .i64 c ∧ b = .int .u64 k)
    case atStart => exact ⟨rfl, 0, m, rfl, rfl, rfl⟩
    case round =>
      obtain ⟨rfl, c, k, rfl, rfl, rfl⟩ := hrel
      by_cases hk : k = 0
      · subst hk
        by_cases hc : c = 1
        · subst hc
          go_wp2
          all_goals go_ret
          all_goals refine ⟨_, rfl, ?_⟩
          all_goals repeat' (first | exact Below.refl _ _ | refine below_alloc ?_ _ | refine Below.drew ?_)
        · have hcf : (c == 1) = false := by simp [hc]
          go_wp2
          all_goals go_ret
          all_goals refine ⟨_, rfl, ?_⟩
          all_goals repeat' (first | exact Below.refl _ _ | refine below_alloc ?_ _ | refine Below.drew ?_)
      · have hkz : ((k : Int) != 0) = true := by simp; omega
        cases hb : (bits BinOp.and IntKind.u64 (k : Int) 1 != 0)
        all_goals
          go_wp2
          go_roundg (k / 2)
          case rel => exact ⟨rfl, _, k / 2, rfl, rfl, by go_num⟩
          case measure => omega
end Go.Proofs.YtnccjpkeaapefaaFmt
