/- Locations: to the public form and back. -/
import Derived.Test.YtmfccgapgmjidaaRows
import Derived.Test.YtmfccgapgmjidaaMem
import Derived.WalkKit
import Derived.WalkLawsBesides
import Derived.WalkSpells
import Derived.Outline
import Derived.RegionTactic
import Derived.StillTailTactics
import Derived.Deep.QuietTactic
import Derived.BigQuiet
import Derived.Deep.RegionWith
import Derived.Deep.RegionHeld3
import Derived.ChangeAlike
import Derived.Lib.Strings
import Derived.IntWalk
namespace Go.Proofs.Ytmfccgapgmjidaa
open Go.RowKit
set_option linter.unusedVariables false
set_option linter.unusedSimpArgs false

/-- The law's struct as a value. -/
def zv (pr : Bool) (F N : ByteArray) (i j k : Int) (T S : ByteArray) : Value := .agg #[.bool pr, .string F, .string N, .int .i64 i, .int .i64 j, .int .i64 k, .string T, .string S]
structure Pub (w : World) (b : Nat) (F N : ByteArray) (i j k : Int) (T S : ByteArray) : Prop where
  c0 : w.cell? ⟨b, 0, none⟩ = some (.string F)
  c1 : w.cell? ⟨b, 1, none⟩ = some (.string N)
  c2 : w.cell? ⟨b, 2, none⟩ = some (.int .i64 i)
  c3 : w.cell? ⟨b, 3, none⟩ = some (.int .i64 j)
  c4 : w.cell? ⟨b, 4, none⟩ = some (.int .i64 k)
  c5 : w.cell? ⟨b, 5, none⟩ = some (.string T)
  c6 : w.cell? ⟨b, 6, none⟩ = some (.string S)
  lt : b < w.heap.size
structure Inn (w : World) (b : Nat) (F N : ByteArray) (i j k : Int) (T S : ByteArray) : Prop where
  c0 : w.cell? ⟨b, 0, none⟩ = some (.string F)
  c1 : w.cell? ⟨b, 1, none⟩ = some (.string F)
  c2 : w.cell? ⟨b, 2, none⟩ = some (.string N)
  c3 : w.cell? ⟨b, 3, none⟩ = some (.string T)
  c4 : w.cell? ⟨b, 4, none⟩ = some (.string S)
  c5 : w.cell? ⟨b, 5, none⟩ = some (.int .i64 i)
  c6 : w.cell? ⟨b, 6, none⟩ = some (.int .i64 j)
  c7 : w.cell? ⟨b, 7, none⟩ = some (.int .i64 k)
  lt : b < w.heap.size
theorem Pub.below {w w' : World} {b B : Nat} {F N T S : ByteArray} {i j k : Int} (h : Pub w b F N i j k T S) (hb : Below B w w') (hB : b < B) : Pub w' b F N i j k T S :=
  ⟨(hb.cell hB).trans h.c0, (hb.cell hB).trans h.c1, (hb.cell hB).trans h.c2, (hb.cell hB).trans h.c3, (hb.cell hB).trans h.c4, (hb.cell hB).trans h.c5, (hb.cell hB).trans h.c6, Nat.lt_of_lt_of_le h.lt hb.size⟩
theorem Inn.below {w w' : World} {b B : Nat} {F N T S : ByteArray} {i j k : Int} (h : Inn w b F N i j k T S) (hb : Below B w w') (hB : b < B) : Inn w' b F N i j k T S :=
  ⟨(hb.cell hB).trans h.c0, (hb.cell hB).trans h.c1, (hb.cell hB).trans h.c2, (hb.cell hB).trans h.c3, (hb.cell hB).trans h.c4, (hb.cell hB).trans h.c5, (hb.cell hB).trans h.c6, (hb.cell hB).trans h.c7, Nat.lt_of_lt_of_le h.lt hb.size⟩
theorem heap_lt {w : World} {b : Nat} {o : Obj} (h : w.heap[b]? = some o) : b < w.heap.size := (Array.getElem?_eq_some_iff.1 h).1
theorem Pub.of {w : World} {b : Nat} {F N T S : ByteArray} {i j k : Int} (h : w.heap[b]? = some (.cells #[.string F, .string N, .int .i64 i, .int .i64 j, .int .i64 k, .string T, .string S] 33 (0, 0))) : Pub w b F N i j k T S := by
  refine ⟨?_, ?_, ?_, ?_, ?_, ?_, ?_, heap_lt h⟩ <;> rw [Lib.cell_of_heap h] <;> rfl
theorem Inn.of {w : World} {b : Nat} {F N T S : ByteArray} {i j k : Int} (h : w.heap[b]? = some (.cells #[.string F, .string F, .string N, .string T, .string S, .int .i64 i, .int .i64 j, .int .i64 k] 54 (0, 0))) : Inn w b F N i j k T S := by
  refine ⟨?_, ?_, ?_, ?_, ?_, ?_, ?_, ?_, heap_lt h⟩ <;> rw [Lib.cell_of_heap h] <;> rfl

theorem heap_new_at {w : World} {o : Obj} {n : Nat} (h : n = w.heap.size) : (w.alloc o).heap[n]? = some o := by subst h; exact heap_alloc_new w o
theorem zz5 (pr : Bool) (F N : ByteArray) (i j k : Int) (T S : ByteArray) (ab : Bool) (w : World) (hF : F.size ≤ maxLen) (hN : N.size ≤ maxLen) (hT : T.size ≤ maxLen) (hS : S.size ≤ maxLen) :
    Calls Try.prog 5 #[zv pr F N i j k T S, .bool ab] w fun e w' => e = .returned (.bool (decide (F.size + N.size + T.size + S.size ≤ 1048576))) ∧ Below w.heap.size w w' := by
  unfold maxLen at hF hN hT hS
  unfold zv
  by_cases h1 : F.size ≤ 1048576
  · by_cases h2 : N.size ≤ 1048576
    · by_cases h3 : F.size + N.size ≤ 1048576
      · by_cases h4 : T.size ≤ 1048576
        · by_cases h5 : F.size + N.size + T.size ≤ 1048576
          · by_cases h6 : S.size ≤ 1048576
            · by_cases h7 : F.size + N.size + T.size + S.size ≤ 1048576
              all_goals
                go_enter Try.func5, Try.ntmps5
                go_wp2_with fail
                go_ret
                exact ⟨by simp [h7], (Below.refl _ _).alloc (Nat.le_refl _) _⟩
            · go_enter Try.func5, Try.ntmps5
              go_wp2_with fail
              go_ret
              exact ⟨ret_boolv (decide_eq_false (by omega)), (Below.refl _ _).alloc (Nat.le_refl _) _⟩
          · go_enter Try.func5, Try.ntmps5
            go_wp2_with fail
            go_ret
            exact ⟨ret_boolv (decide_eq_false (by omega)), (Below.refl _ _).alloc (Nat.le_refl _) _⟩
        · go_enter Try.func5, Try.ntmps5
          go_wp2_with fail
          go_ret
          exact ⟨ret_boolv (decide_eq_false (by omega)), (Below.refl _ _).alloc (Nat.le_refl _) _⟩
      · go_enter Try.func5, Try.ntmps5
        go_wp2_with fail
        go_ret
        exact ⟨ret_boolv (decide_eq_false (by omega)), (Below.refl _ _).alloc (Nat.le_refl _) _⟩
    · go_enter Try.func5, Try.ntmps5
      go_wp2_with fail
      go_ret
      exact ⟨ret_boolv (decide_eq_false (by omega)), (Below.refl _ _).alloc (Nat.le_refl _) _⟩
  · go_enter Try.func5, Try.ntmps5
    go_wp2_with fail
    go_ret
    exact ⟨ret_boolv (decide_eq_false (by omega)), (Below.refl _ _).alloc (Nat.le_refl _) _⟩
theorem locBytes (pr : Bool) (F N : ByteArray) (i j k : Int) (T S : ByteArray) (w : World) (h : F.size + N.size + T.size + S.size ≤ 1048576) :
    Calls Try.prog 6 #[zv pr F N i j k T S] w fun e w' => e = .returned (.int .i64 ((F.size + N.size + T.size + S.size : Nat) : Int)) ∧ Below w.heap.size w w' := by
  unfold zv
  go_enter Try.func6, Try.ntmps6
  go_wp2_with fail
  go_ret
  exact ⟨by go_num, (Below.refl _ _).alloc (Nat.le_refl _) _⟩
theorem buildLoc (F N : ByteArray) (i j k : Int) (T S : ByteArray) (w : World) :
    Calls Try.prog 8 #[zv true F N i j k T S] w fun e w' => ∃ b, e = .returned (.pointer (some ⟨b, 0, none⟩)) ∧ w.heap.size ≤ b ∧ Pub w' b F N i j k T S ∧ Below w.heap.size w w' := by
  unfold zv
  go_enter Try.func8, Try.ntmps8
  go_wp2_with fail
  go_ret
  exact ⟨_, rfl, by simp, Pub.of (heap_new_at (by simp)), ((Below.refl _ _).alloc (Nat.le_refl _) _).alloc (by simp) _⟩
theorem buildNone (F N : ByteArray) (i j k : Int) (T S : ByteArray) (w : World) :
    Calls Try.prog 8 #[zv false F N i j k T S] w fun e w' => e = .returned (.pointer none) ∧ Below w.heap.size w w' := by
  unfold zv
  go_enter Try.func8, Try.ntmps8
  go_wp2_with fail
  go_ret
  exact ⟨rfl, (Below.refl _ _).alloc (Nat.le_refl _) _⟩
end Go.Proofs.Ytmfccgapgmjidaa
