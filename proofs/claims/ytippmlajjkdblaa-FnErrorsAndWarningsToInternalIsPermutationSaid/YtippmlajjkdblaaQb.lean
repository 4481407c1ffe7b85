/- locBytes, buildLoc. -/
import Derived.Test.YtippmlajjkdblaaQa
namespace Go.Proofs.Ytippmlajjkdblaa
open Go.RowKit
set_option linter.unusedVariables false
set_option linter.unusedSimpArgs false
abbrev zv (z : ZLo) : Value := .agg #[.bool z.P, .string z.F, .string z.N, .int .i64 z.i, .int .i64 z.j, .int .i64 z.k, .string z.T, .string z.S]
/-- Strings within the bound. -/
structure ZLo.Small (z : ZLo) : Prop where
  F : z.F.size ≤ 1048576
  N : z.N.size ≤ 1048576
  T : z.T.size ≤ 1048576
  S : z.S.size ≤ 1048576
structure ZM.Small (m : ZM) : Prop where
  I : m.I.size ≤ 1048576
  G : m.G.size ≤ 1048576
  X : m.X.size ≤ 1048576
  L : m.L.Small
  n : m.n ≤ 1048576
  T : ∀ j, j < m.n → (m.T j).size ≤ 1048576
  O : ∀ j, j < m.n → (m.O j).Small
theorem locBytes (z : ZLo) (w : World) (h : z.Small) :
    Calls Try.prog 11 #[zv z] w fun e w' => (∃ n : Nat, e = .returned (.int .i64 (n : Int)) ∧ n ≤ 4194304) ∧ Below w.heap.size w w' := by
  obtain ⟨h1, h2, h3, h4⟩ := h
  go_enter Try.func11, Try.ntmps11
  go_wp2_with fail
  go_ret
  exact ⟨⟨z.F.size + z.N.size + z.T.size + z.S.size, by go_num, by omega⟩, (Below.refl _ _).alloc (Nat.le_refl _) _⟩
def ofZ (z : ZLo) : Option PubA := if z.P = true then some ⟨z.F, z.N, z.i, z.j, z.k, z.T, z.S⟩ else none
/-- Blocks that hold a public location. -/
def PL (w : World) : Nat → Prop := fun b => ∃ cur, w.heap[b]? = some (.cells cur 58 (0, 0))
theorem PL.zo {w : World} {g : Nat} (h : PL w g) : Zo w g := by
  obtain ⟨cur, e⟩ := h
  exact ⟨cur, _, e, by decide⟩
theorem PL.of {w w' : World} {g : Nat} (h : PL w g) (e : w'.heap[g]? = w.heap[g]?) : PL w' g := by
  obtain ⟨cur, e'⟩ := h
  exact ⟨cur, e.trans e'⟩
/-- A pointer to a public location in new memory. -/
def NewLoc (w : World) (p : Option Addr) : Option PubA → Prop
  | none => p = none
  | some P => ∃ b, p = some ⟨b, 0, none⟩ ∧ PL w b ∧ Pub w b P
theorem NewLoc.is {w : World} {p : Option Addr} {o : Option PubA} (h : NewLoc w p o) : IsLoc w p o := by
  cases o with
  | none => exact h
  | some P => obtain ⟨b, e, hz, hp⟩ := h; exact ⟨b, e, hz.zo, hp⟩
theorem NewLoc.keep {w w' : World} {p : Option Addr} {o : Option PubA} (h : NewLoc w p o) (hk : ∀ g, PL w g → w'.heap[g]? = w.heap[g]?) (hs : w.heap.size ≤ w'.heap.size) : NewLoc w' p o := by
  cases o with
  | none => exact h
  | some P => obtain ⟨b, e, hz, hp⟩ := h; exact ⟨b, e, hz.of (hk b hz), hp.keep (hk b hz) hs⟩
theorem buildLoc (z : ZLo) (w : World) :
    Calls Try.prog 13 #[zv z] w fun e w' => ∃ p, e = .returned (.pointer p) ∧ NewLoc w' p (ofZ z) ∧ Below w.heap.size w w' := by
  obtain ⟨P, F, N, i, j, k, T, S⟩ := z
  cases P
  · go_enter Try.func13, Try.ntmps13
    go_wp2_with fail
    go_ret
    exact ⟨_, rfl, rfl, (Below.refl _ _).alloc (Nat.le_refl _) _⟩
  · go_enter Try.func13, Try.ntmps13
    go_wp2_with fail
    go_ret
    exact ⟨_, rfl, ⟨_, rfl, ⟨_, heap_new_at (by simp)⟩, Pub.of (heap_new_at (by simp))⟩, ((Below.refl _ _).alloc (Nat.le_refl _) _).alloc (by simp) _⟩
end Go.Proofs.Ytippmlajjkdblaa
