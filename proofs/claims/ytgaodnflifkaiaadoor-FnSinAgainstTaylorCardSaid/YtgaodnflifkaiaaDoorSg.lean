/- A world that holds the tables meets the condition. -/
import Derived.Test.YtgaodnflifkaiaaDoorSf
namespace Go.Proofs.YtgaodnflifkaiaaDoor
open Go.ChangeShapes Go.WideShapes Go.ChangeAt Go.RowKit
set_option linter.unusedVariables false

def noFace : Value → Bool
  | .iface _ _ => false
  | _ => true
theorem noFace_at {cs : Array Value} (h : cs.toList.all noFace = true) {i : Nat} {u : TypeId} {v : Value} : ¬ cs[i]? = some (.iface u v) := by
  intro hi
  obtain ⟨hl, he⟩ := Array.getElem?_eq_some_iff.1 hi
  have := List.all_eq_true.1 h _ (Array.getElem_mem_toList hl)
  rw [he] at this
  simp [noFace] at this
theorem mem_row {b off B n : Nat} (h : MemPlace.cell b off ∈ MemPlace.row ⟨B, 0, none⟩ n) : b = B := by
  unfold MemPlace.row at h
  simp at h
  omega
set_option maxRecDepth 100000 in
theorem laid_met (os : Os) (args : Array Value) : laidMet Tryd.prog laid3 ((laidWorld os).forCall (fun _ _ => 0) ⟨#[], args, []⟩).memory := by
  refine ⟨_, ⟨2, 36, cellsS, 8, [], _, Tryd.gS, Tryd.tS, by kernel_rfl, by kernel_rfl, ⟨1, 36, cellsC, 8, [], _, Tryd.gC, Tryd.tC, by kernel_rfl, by kernel_rfl, ⟨3, 40, cellsP, 8, [], _, Tryd.gP, Tryd.tP, by kernel_rfl, by kernel_rfl, rfl, rfl⟩, rfl⟩, rfl⟩, by decide +kernel, fun b off h => ?_⟩
  simp only [List.append_nil, List.mem_append] at h
  rcases h with h | h | h
  · obtain rfl := mem_row h
    refine ⟨⟨_, _, row2 os _⟩, fun u v hc => ?_⟩
    simp only [World.cell?, row2] at hc
    exact absurd (by simpa using hc) (noFace_at (cs := cellsS) rfl)
  · obtain rfl := mem_row h
    refine ⟨⟨_, _, row1 os _⟩, fun u v hc => ?_⟩
    simp only [World.cell?, row1] at hc
    exact absurd (by simpa using hc) (noFace_at (cs := cellsC) rfl)
  · obtain rfl := mem_row h
    refine ⟨⟨_, _, row3 os _⟩, fun u v hc => ?_⟩
    simp only [World.cell?, row3] at hc
    exact absurd (by simpa using hc) (noFace_at (cs := cellsP) rfl)
end Go.Proofs.YtgaodnflifkaiaaDoor
