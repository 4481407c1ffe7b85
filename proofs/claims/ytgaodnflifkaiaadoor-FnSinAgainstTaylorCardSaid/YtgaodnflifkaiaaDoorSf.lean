/- What the laid tables of math/sin.go hold, as a walk reads them; a world that holds them. -/
import Derived.Test.YtgaodnflifkaiaaDoorRows
import Derived.Test.YtgaodnflifkaiaaDoorSl
import Derived.ChangeSame
import Derived.ChangeVars
import Derived.JoinedOf
import Derived.RowKit
import Derived.RowKitTokens
import Derived.LaidLaws
import Derived.LaidHandle
import Derived.WalkKit
import Derived.ProofKit
import Derived.OpenShut
import Derived.ChangeOld
import Derived.Below
namespace Go.Proofs.YtgaodnflifkaiaaDoor
open Go.ChangeShapes Go.WideShapes Go.ChangeAt Go.RowKit
set_option linter.unusedVariables false

theorem Tryd.own : ownKnob Tryd.prog.godebug = none := by kernel_rfl
theorem Tryd.gS : Tryd.prog.globalNamed "math._sin" = some 2 := by kernel_rfl
theorem Tryd.gC : Tryd.prog.globalNamed "math._cos" = some 1 := by kernel_rfl
theorem Tryd.gP : Tryd.prog.globalNamed "math.mPi4" = some 3 := by kernel_rfl
theorem Tryd.tS : (Tryd.prog.globals[2]?).map (·.type) = some 36 := by kernel_rfl
theorem Tryd.tC : (Tryd.prog.globals[1]?).map (·.type) = some 36 := by kernel_rfl
theorem Tryd.tP : (Tryd.prog.globals[3]?).map (·.type) = some 40 := by kernel_rfl
theorem Tryd.cells6 : Tryd.prog.cellsOf 36 = 6 := by kernel_rfl
theorem Tryd.cells20 : Tryd.prog.cellsOf 40 = 20 := by kernel_rfl
theorem Tryd.cellsF : Tryd.prog.cellsOf 22 = 1 := by kernel_rfl
theorem Tryd.cellsU : Tryd.prog.cellsOf 33 = 1 := by kernel_rfl
def cellsS : Array Value := #[.float .f64 4460209587652500685, .float .f64 13716528389658582877, .float .f64 4523617212962785441, .float .f64 13774824197404483331, .float .f64 4575957461383575504, .float .f64 13818544856648471880]
def cellsC : Array Value := #[.float .f64 13666448263388469915, .float .f64 4477121864728985349, .float .f64 13732177093698800582, .float .f64 4537941361668146421, .float .f64 13787419979223748497, .float .f64 4586165620538955083]
def cellsP : Array Value := #[.int .u64 1, .int .u64 5040379952546458195, .int .u64 17892431488136887169, .int .u64 13169980181085364355, .int .u64 18204331823439776451, .int .u64 7946843935494350272, .int .u64 905889640498799673, .int .u64 18175356263134875261, .int .u64 15061281708168349961, .int .u64 15220161563773041794, .int .u64 8296664548579374057, .int .u64 4109744767560208502, .int .u64 4607516669194743839, .int .u64 16023283104648321598, .int .u64 15739233654134936430, .int .u64 11424645774684705882, .int .u64 16883842788696515318, .int .u64 8795094592981902804, .int .u64 15561835991111744016, .int .u64 12395701187267450711]
def laid3 : List (String × DataW Unit) := [("math._sin", Rows.laid_math_sin), ("math._cos", Rows.laid_math_cos), ("math.mPi4", Rows.laid_math_mPi4)]

theorem int_of_trod {H : Type} {enc : TypeId × Value → H} {P : Program} {w : World} {base : Nat} {sp : Nat → Bool} {held : Bool} {fuel : Nat} {t : TypeId} {k : IntKind} {c : Value} {y : DataW H × List MemPlace}
    (ht : P.underlying t = some (.int k)) (h : DataW.trod enc P w base sp held fuel t [c] = some y) : ∃ n, c = .int k n ∧ y = (.lit (.int k n), []) := by
  cases fuel with
  | zero => simp [DataW.trod] at h
  | succ fuel =>
    cases c <;> simp [DataW.trod, ht] at h
    rename_i k' n
    obtain ⟨⟨rfl, _⟩, rfl⟩ := h
    exact ⟨n, rfl, rfl⟩
theorem float_of_trod {H : Type} {enc : TypeId × Value → H} {P : Program} {w : World} {base : Nat} {sp : Nat → Bool} {held : Bool} {fuel : Nat} {t : TypeId} {k : FloatKind} {c : Value} {y : DataW H × List MemPlace}
    (ht : P.underlying t = some (.float k)) (h : DataW.trod enc P w base sp held fuel t [c] = some y) : ∃ n, c = .float k n ∧ y = (.lit (.float k n), []) := by
  cases fuel with
  | zero => simp [DataW.trod] at h
  | succ fuel =>
    cases c <;> simp [DataW.trod, ht] at h
    rename_i k' n
    obtain ⟨⟨rfl, _⟩, rfl⟩ := h
    exact ⟨n, rfl, rfl⟩
set_option maxRecDepth 100000 in
theorem cells_S {W : World} {sp : Nat → Bool} {held : Bool} {fuel : Nat} {enc : TypeId × Value → Unit} {cs : Array Value} {p : List MemPlace} (hd : DataW.trod enc Tryd.prog W 0 sp held fuel 36 cs.toList = some (Rows.laid_math_sin, p)) : cs = cellsS := by
  obtain ⟨l⟩ := cs
  congr 1
  cases fuel with
  | zero => simp [DataW.trod] at hd
  | succ fuel =>
    simp only [DataW.trod, Tryd.underlying36, Tryd.cells6, Tryd.cellsF] at hd
    split at hd
    · rename_i hl
      obtain ⟨c0, c1, c2, c3, c4, c5, rfl⟩ : ∃ c0 c1 c2 c3 c4 c5, l = [c0, c1, c2, c3, c4, c5] := by
        match l, hl with
        | [a0, a1, a2, a3, a4, a5], _ => exact ⟨a0, a1, a2, a3, a4, a5, rfl⟩
      have e : List.range 6 = [0, 1, 2, 3, 4, 5] := rfl
      rw [e] at hd
      simp only [Option.map_eq_some_iff, List.mapM_cons, List.mapM_nil, Option.bind_eq_bind, Option.bind_eq_some_iff, Option.pure_def, Option.some.injEq] at hd
      obtain ⟨xs, ⟨y0, h0, _, ⟨y1, h1, _, ⟨y2, h2, _, ⟨y3, h3, _, ⟨y4, h4, _, ⟨y5, h5, _, rfl, rfl⟩, rfl⟩, rfl⟩, rfl⟩, rfl⟩, rfl⟩, hx⟩ := hd
      obtain ⟨n0, rfl, rfl⟩ := float_of_trod Tryd.underlying22 h0
      obtain ⟨n1, rfl, rfl⟩ := float_of_trod Tryd.underlying22 h1
      obtain ⟨n2, rfl, rfl⟩ := float_of_trod Tryd.underlying22 h2
      obtain ⟨n3, rfl, rfl⟩ := float_of_trod Tryd.underlying22 h3
      obtain ⟨n4, rfl, rfl⟩ := float_of_trod Tryd.underlying22 h4
      obtain ⟨n5, rfl, rfl⟩ := float_of_trod Tryd.underlying22 h5
      simp [Rows.laid_math_sin] at hx
      obtain ⟨⟨rfl, rfl, rfl, rfl, rfl, rfl⟩, _⟩ := hx
      rfl
    · cases hd
set_option maxRecDepth 100000 in
theorem cells_C {W : World} {sp : Nat → Bool} {held : Bool} {fuel : Nat} {enc : TypeId × Value → Unit} {cs : Array Value} {p : List MemPlace} (hd : DataW.trod enc Tryd.prog W 0 sp held fuel 36 cs.toList = some (Rows.laid_math_cos, p)) : cs = cellsC := by
  obtain ⟨l⟩ := cs
  congr 1
  cases fuel with
  | zero => simp [DataW.trod] at hd
  | succ fuel =>
    simp only [DataW.trod, Tryd.underlying36, Tryd.cells6, Tryd.cellsF] at hd
    split at hd
    · rename_i hl
      obtain ⟨c0, c1, c2, c3, c4, c5, rfl⟩ : ∃ c0 c1 c2 c3 c4 c5, l = [c0, c1, c2, c3, c4, c5] := by
        match l, hl with
        | [a0, a1, a2, a3, a4, a5], _ => exact ⟨a0, a1, a2, a3, a4, a5, rfl⟩
      have e : List.range 6 = [0, 1, 2, 3, 4, 5] := rfl
      rw [e] at hd
      simp only [Option.map_eq_some_iff, List.mapM_cons, List.mapM_nil, Option.bind_eq_bind, Option.bind_eq_some_iff, Option.pure_def, Option.some.injEq] at hd
      obtain ⟨xs, ⟨y0, h0, _, ⟨y1, h1, _, ⟨y2, h2, _, ⟨y3, h3, _, ⟨y4, h4, _, ⟨y5, h5, _, rfl, rfl⟩, rfl⟩, rfl⟩, rfl⟩, rfl⟩, rfl⟩, hx⟩ := hd
      obtain ⟨n0, rfl, rfl⟩ := float_of_trod Tryd.underlying22 h0
      obtain ⟨n1, rfl, rfl⟩ := float_of_trod Tryd.underlying22 h1
      obtain ⟨n2, rfl, rfl⟩ := float_of_trod Tryd.underlying22 h2
      obtain ⟨n3, rfl, rfl⟩ := float_of_trod Tryd.underlying22 h3
      obtain ⟨n4, rfl, rfl⟩ := float_of_trod Tryd.underlying22 h4
      obtain ⟨n5, rfl, rfl⟩ := float_of_trod Tryd.underlying22 h5
      simp [Rows.laid_math_cos] at hx
      obtain ⟨⟨rfl, rfl, rfl, rfl, rfl, rfl⟩, _⟩ := hx
      rfl
    · cases hd
set_option maxRecDepth 100000 in
theorem cells_P {W : World} {sp : Nat → Bool} {held : Bool} {fuel : Nat} {enc : TypeId × Value → Unit} {cs : Array Value} {p : List MemPlace} (hd : DataW.trod enc Tryd.prog W 0 sp held fuel 40 cs.toList = some (Rows.laid_math_mPi4, p)) : cs = cellsP := by
  obtain ⟨l⟩ := cs
  congr 1
  cases fuel with
  | zero => simp [DataW.trod] at hd
  | succ fuel =>
    simp only [DataW.trod, Tryd.underlying40, Tryd.cells20, Tryd.cellsU] at hd
    split at hd
    · rename_i hl
      obtain ⟨c0, c1, c2, c3, c4, c5, c6, c7, c8, c9, c10, c11, c12, c13, c14, c15, c16, c17, c18, c19, rfl⟩ : ∃ c0 c1 c2 c3 c4 c5 c6 c7 c8 c9 c10 c11 c12 c13 c14 c15 c16 c17 c18 c19, l = [c0, c1, c2, c3, c4, c5, c6, c7, c8, c9, c10, c11, c12, c13, c14, c15, c16, c17, c18, c19] := by
        match l, hl with
        | [a0, a1, a2, a3, a4, a5, a6, a7, a8, a9, a10, a11, a12, a13, a14, a15, a16, a17, a18, a19], _ => exact ⟨a0, a1, a2, a3, a4, a5, a6, a7, a8, a9, a10, a11, a12, a13, a14, a15, a16, a17, a18, a19, rfl⟩
      have e : List.range 20 = [0, 1, 2, 3, 4, 5, 6, 7, 8, 9, 10, 11, 12, 13, 14, 15, 16, 17, 18, 19] := rfl
      rw [e] at hd
      simp only [Option.map_eq_some_iff, List.mapM_cons, List.mapM_nil, Option.bind_eq_bind, Option.bind_eq_some_iff, Option.pure_def, Option.some.injEq] at hd
      obtain ⟨xs, ⟨y0, h0, _, ⟨y1, h1, _, ⟨y2, h2, _, ⟨y3, h3, _, ⟨y4, h4, _, ⟨y5, h5, _, ⟨y6, h6, _, ⟨y7, h7, _, ⟨y8, h8, _, ⟨y9, h9, _, ⟨y10, h10, _, ⟨y11, h11, _, ⟨y12, h12, _, ⟨y13, h13, _, ⟨y14, h14, _, ⟨y15, h15, _, ⟨y16, h16, _, ⟨y17, h17, _, ⟨y18, h18, _, ⟨y19, h19, _, rfl, rfl⟩, rfl⟩, rfl⟩, rfl⟩, rfl⟩, rfl⟩, rfl⟩, rfl⟩, rfl⟩, rfl⟩, rfl⟩, rfl⟩, rfl⟩, rfl⟩, rfl⟩, rfl⟩, rfl⟩, rfl⟩, rfl⟩, rfl⟩, hx⟩ := hd
      obtain ⟨n0, rfl, rfl⟩ := int_of_trod Tryd.underlying33 h0
      obtain ⟨n1, rfl, rfl⟩ := int_of_trod Tryd.underlying33 h1
      obtain ⟨n2, rfl, rfl⟩ := int_of_trod Tryd.underlying33 h2
      obtain ⟨n3, rfl, rfl⟩ := int_of_trod Tryd.underlying33 h3
      obtain ⟨n4, rfl, rfl⟩ := int_of_trod Tryd.underlying33 h4
      obtain ⟨n5, rfl, rfl⟩ := int_of_trod Tryd.underlying33 h5
      obtain ⟨n6, rfl, rfl⟩ := int_of_trod Tryd.underlying33 h6
      obtain ⟨n7, rfl, rfl⟩ := int_of_trod Tryd.underlying33 h7
      obtain ⟨n8, rfl, rfl⟩ := int_of_trod Tryd.underlying33 h8
      obtain ⟨n9, rfl, rfl⟩ := int_of_trod Tryd.underlying33 h9
      obtain ⟨n10, rfl, rfl⟩ := int_of_trod Tryd.underlying33 h10
      obtain ⟨n11, rfl, rfl⟩ := int_of_trod Tryd.underlying33 h11
      obtain ⟨n12, rfl, rfl⟩ := int_of_trod Tryd.underlying33 h12
      obtain ⟨n13, rfl, rfl⟩ := int_of_trod Tryd.underlying33 h13
      obtain ⟨n14, rfl, rfl⟩ := int_of_trod Tryd.underlying33 h14
      obtain ⟨n15, rfl, rfl⟩ := int_of_trod Tryd.underlying33 h15
      obtain ⟨n16, rfl, rfl⟩ := int_of_trod Tryd.underlying33 h16
      obtain ⟨n17, rfl, rfl⟩ := int_of_trod Tryd.underlying33 h17
      obtain ⟨n18, rfl, rfl⟩ := int_of_trod Tryd.underlying33 h18
      obtain ⟨n19, rfl, rfl⟩ := int_of_trod Tryd.underlying33 h19
      simp [Rows.laid_math_mPi4] at hx
      obtain ⟨⟨rfl, rfl, rfl, rfl, rfl, rfl, rfl, rfl, rfl, rfl, rfl, rfl, rfl, rfl, rfl, rfl, rfl, rfl, rfl, rfl⟩, _⟩ := hx
      rfl
    · cases hd

def tabOf (i : Nat) : Int := match cellsP[i]? with | some (.int _ n) => n | _ => 0
theorem tabs_of_laid {W : World} (h : laidMet Tryd.prog laid3 W) : Tabs tabOf W := by
  obtain ⟨ps, ⟨g1, t1, cs1, fu1, p1, q1, a1, b1, c1, d1, ⟨g2, t2, cs2, fu2, p2, q2, a2, b2, c2, d2, ⟨g3, t3, cs3, fu3, p3, q3, a3, b3, c3, d3, _, _⟩, _⟩, _⟩, _⟩ := h
  obtain rfl := Option.some.inj (Tryd.gS.symm.trans a1)
  obtain rfl := Option.some.inj (Tryd.gC.symm.trans a2)
  obtain rfl := Option.some.inj (Tryd.gP.symm.trans a3)
  obtain rfl := Option.some.inj (Tryd.tS.symm.trans b1)
  obtain rfl := Option.some.inj (Tryd.tC.symm.trans b2)
  obtain rfl := Option.some.inj (Tryd.tP.symm.trans b3)
  obtain rfl := cells_S d1
  obtain rfl := cells_C d2
  obtain rfl := cells_P d3
  refine ⟨⟨World.var?_cell a1 c1 0, World.var?_cell a1 c1 1, World.var?_cell a1 c1 2, World.var?_cell a1 c1 3, World.var?_cell a1 c1 4, World.var?_cell a1 c1 5⟩,
    ⟨World.var?_cell a2 c2 0, World.var?_cell a2 c2 1, World.var?_cell a2 c2 2, World.var?_cell a2 c2 3, World.var?_cell a2 c2 4, World.var?_cell a2 c2 5⟩, ⟨fun i hi => ?_⟩⟩
  refine (World.var?_cell a3 c3 i).trans ?_
  match i, hi with
  | 0, _ => rfl
  | 1, _ => rfl
  | 2, _ => rfl
  | 3, _ => rfl
  | 4, _ => rfl
  | 5, _ => rfl
  | 6, _ => rfl
  | 7, _ => rfl
  | 8, _ => rfl
  | 9, _ => rfl
  | 10, _ => rfl
  | 11, _ => rfl
  | 12, _ => rfl
  | 13, _ => rfl
  | 14, _ => rfl
  | 15, _ => rfl
  | 16, _ => rfl
  | 17, _ => rfl
  | 18, _ => rfl
  | 19, _ => rfl
  | n + 20, h => exact absurd h (by omega)

def layIn (cs : Array Value) : Obj → Obj
  | .cells _ t frozen => .cells cs t frozen
  | o => o
/-- A world that holds the tables. -/
noncomputable def laidWorld (os : Os) : World :=
  { World.holding Tryd.prog os ⟨#[], #[], []⟩ with heap := (((World.holding Tryd.prog os ⟨#[], #[], []⟩).heap.modify 2 (layIn cellsS)).modify 1 (layIn cellsC)).modify 3 (layIn cellsP) }
theorem row2 (os : Os) (args : Array Value) : ((laidWorld os).forCall (fun _ _ => 0) ⟨#[], args, []⟩).memory.heap[2]? = some (.cells cellsS 36 (0, 0)) := by kernel_rfl
theorem row1 (os : Os) (args : Array Value) : ((laidWorld os).forCall (fun _ _ => 0) ⟨#[], args, []⟩).memory.heap[1]? = some (.cells cellsC 36 (0, 0)) := by kernel_rfl
theorem row3 (os : Os) (args : Array Value) : ((laidWorld os).forCall (fun _ _ => 0) ⟨#[], args, []⟩).memory.heap[3]? = some (.cells cellsP 40 (0, 0)) := by kernel_rfl
end Go.Proofs.YtgaodnflifkaiaaDoor

