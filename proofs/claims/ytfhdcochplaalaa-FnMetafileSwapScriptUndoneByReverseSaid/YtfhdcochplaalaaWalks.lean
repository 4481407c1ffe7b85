/- The walks of metafileArray's functions. -/
import Derived.Test.YtfhdcochplaalaaRows
import Derived.Test.YtfhdcochplaalaaMem
import Derived.WalkKit
import Derived.WalkLawsBesides
import Derived.WalkSpells
import Derived.Deep.LoopGhost
import Derived.Outline
import Derived.RegionTactic
import Derived.StillTailTactics
import Derived.Deep.QuietTactic
import Derived.BigQuiet
import Derived.BigRegion
import Derived.ChangeAlike
namespace Go.Proofs.Ytfhdcochplaalaa
open Go.RowKit
set_option linter.unusedVariables false
set_option linter.unusedSimpArgs false

theorem Try.info3 : (Try.prog.info? 3).map (fun i => (i.zero, i.size, i.bytes)) = some (some (.int .i64 0), 1, 8) := by kernel_rfl
theorem Try.info9 : (Try.prog.info? 9).map (fun i => (i.zero, i.size, i.bytes)) = some (some (.string ⟨#[]⟩), 1, 16) := by kernel_rfl
theorem Try.info45 : (Try.prog.info? 45).map (fun i => (i.zero, i.size, i.bytes)) = some (some (.agg #[.string ⟨#[]⟩, .string ⟨#[]⟩, .slice none 0 0, .int .i64 0]), 4, 64) := by kernel_rfl

/-- The cells of a row of entries. -/
def ent (nm : Nat → ByteArray) (sz : Nat → Int) (i : Nat) : Value :=
  if i % 4 = 0 then .string (nm (i / 4)) else if i % 4 = 1 then .string ⟨#[]⟩ else if i % 4 = 2 then .slice none 0 0 else .int .i64 (sz (i / 4))
theorem ent0 (nm : Nat → ByteArray) (sz : Nat → Int) (i : Nat) : ent nm sz (i * 4) = .string (nm i) := by
  unfold ent; rw [if_pos (by omega), show i * 4 / 4 = i by omega]
theorem ent1 (nm : Nat → ByteArray) (sz : Nat → Int) (i : Nat) : ent nm sz (i * 4 + 1) = .string ⟨#[]⟩ := by
  unfold ent; rw [if_neg (by omega), if_pos (by omega)]
theorem ent2 (nm : Nat → ByteArray) (sz : Nat → Int) (i : Nat) : ent nm sz (i * 4 + 2) = .slice none 0 0 := by
  unfold ent; rw [if_neg (by omega), if_neg (by omega), if_pos (by omega)]
theorem ent3 (nm : Nat → ByteArray) (sz : Nat → Int) (i : Nat) : ent nm sz (i * 4 + 3) = .int .i64 (sz i) := by
  unfold ent; rw [if_neg (by omega), if_neg (by omega), if_neg (by omega), show (i * 4 + 3) / 4 = i by omega]

theorem ent_congr {nm nm' : Nat → ByteArray} {sz sz' : Nat → Int} (h : ∀ k, nm k = nm' k) (h' : ∀ k, sz k = sz' k) (q : Nat) : ent nm sz q = ent nm' sz' q := by rw [funext h, funext h']
def Row4 (w : World) (g n : Nat) (nm : Nat → ByteArray) (sz : Nat → Int) : Prop := w.rowIs g 45 (n * 4) (ent nm sz)
theorem Row4.cells {w : World} {g n : Nat} {nm : Nat → ByteArray} {sz : Nat → Int} (h : Row4 w g n nm sz) {i : Nat} (hi : i < n) :
    w.cell? ⟨g, i * 4, none⟩ = some (.string (nm i)) ∧ w.cell? ⟨g, i * 4 + 1, none⟩ = some (.string ⟨#[]⟩) ∧ w.cell? ⟨g, i * 4 + 1 + 1, none⟩ = some (.slice none 0 0) ∧ w.cell? ⟨g, i * 4 + 1 + 1 + 1, none⟩ = some (.int .i64 (sz i)) := by
  have h0 := h.cell (i := i * 4) (by omega)
  have h1 := h.cell (i := i * 4 + 1) (by omega)
  have h2 := h.cell (i := i * 4 + 2) (by omega)
  have h3 := h.cell (i := i * 4 + 3) (by omega)
  rw [ent0] at h0
  rw [ent1] at h1
  rw [ent2] at h2
  rw [ent3] at h3
  exact ⟨h0, h1, h2, h3⟩

theorem Row4.put {w : World} {g n : Nat} {nm : Nat → ByteArray} {sz : Nat → Int} (h : Row4 w g n nm sz) (i : Nat) (a : ByteArray) (s : Int) :
    Row4 ((((w.setCell ⟨g, i * 4, none⟩ (.string a)).setCell ⟨g, i * 4 + 1, none⟩ (.string ⟨#[]⟩)).setCell ⟨g, i * 4 + 2, none⟩ (.slice none 0 0)).setCell ⟨g, i * 4 + 3, none⟩ (.int .i64 s)) g n
      (fun j => if j = i then a else nm j) (fun j => if j = i then s else sz j) := by
  refine ((((h.set _ _).set _ _).set _ _).set _ _).congr fun q hq => ?_
  by_cases hqi : q / 4 = i
  · have e : q = i * 4 + q % 4 := by omega
    have hlt : q % 4 < 4 := Nat.mod_lt _ (by omega)
    rcases (show q % 4 = 0 ∨ q % 4 = 1 ∨ q % 4 = 2 ∨ q % 4 = 3 by omega) with h | h | h | h
    · rw [if_neg (by omega), if_neg (by omega), if_neg (by omega), if_pos (by omega)]; simp [ent, h, hqi]
    · rw [if_neg (by omega), if_neg (by omega), if_pos (by omega)]; simp [ent, h, hqi]
    · rw [if_neg (by omega), if_pos (by omega)]; simp [ent, h, hqi]
    · rw [if_pos (by omega)]; simp [ent, h, hqi]
  · rw [if_neg (by omega), if_neg (by omega), if_neg (by omega), if_neg (by omega)]
    simp [ent, hqi]
theorem grown_put {w a : World} {g : Nat} (h : a.grownBy w (some g)) (p q r t : Nat) (u v x y : Value) : a.grownBy ((((w.setCell ⟨g, p, none⟩ u).setCell ⟨g, q, none⟩ v).setCell ⟨g, r, none⟩ x).setCell ⟨g, t, none⟩ y) (some g) := by
  have h1 := only_setCell (p := ⟨g, p, none⟩) h (.inl rfl) u
  have h2 := only_setCell (p := ⟨g, q, none⟩) h1 (.inl rfl) v
  have h3 := only_setCell (p := ⟨g, r, none⟩) h2 (.inl rfl) x
  exact only_setCell (p := ⟨g, t, none⟩) h3 (.inl rfl) y

theorem setEntry (g n i : Nat) (a : ByteArray) (s : Int) (nm : Nat → ByteArray) (sz : Nat → Int) (hi : i < n) (hn : n ≤ 1048576) (w : World) (h : Row4 w g n nm sz) :
    Calls Try.prog 20 #[.slice (some ⟨g, 0, none⟩) n n, .int .i64 i, .string a, .int .i64 s] w fun e w' => e = .returned (.tuple #[]) ∧ Row4 w' g n (fun j => if j = i then a else nm j) (fun j => if j = i then s else sz j) ∧ w.grownBy w' (some g) := by
  obtain ⟨c0, c1, c2, c3⟩ := h.cells hi
  have f0 := h.frozen (i * 4)
  have f1 := h.frozen (i * 4 + 1)
  have f2 := h.frozen (i * 4 + 1 + 1)
  have f3 := h.frozen (i * 4 + 1 + 1 + 1)
  have HR := Lib.hid h
  clear h
  go_enter Try.func20, Try.ntmps20
  go_wp2
  go_end0
  exact ⟨rfl, HR.out.put i a s, grown_put (World.grownBy.refl w _) _ _ _ _ _ _ _ _⟩
def SwapPost (g n : Nat) (nm : Nat → ByteArray) (sz : Nat → Int) (w : World) (e : Ending) (w' : World) : Prop := e = .returned (.tuple #[]) ∧ Row4 w' g n nm sz ∧ w.grownBy w' (some g)
def sw {α : Type} (f : Nat → α) (i j : Nat) : Nat → α := fun k => if k = i then f j else if k = j then f i else f k
theorem swap (g n i j : Nat) (nm : Nat → ByteArray) (sz : Nat → Int) (hi : i < n) (hj : j < n) (hn : n ≤ 1048576) (w : World) (h : Row4 w g n nm sz) :
    Calls Try.prog 21 #[.slice (some ⟨g, 0, none⟩) n n, .int .i64 i, .int .i64 j] w (SwapPost g n (sw nm i j) (sw sz i j) w) := by
  obtain ⟨c0, c1, c2, c3⟩ := h.cells hi
  have f0 := h.frozen (i * 4)
  have f1 := h.frozen (i * 4 + 1)
  have f2 := h.frozen (i * 4 + 1 + 1)
  have f3 := h.frozen (i * 4 + 1 + 1 + 1)
  obtain ⟨c0', c1', c2', c3'⟩ := h.cells hj
  have f0' := h.frozen (j * 4)
  have f1' := h.frozen (j * 4 + 1)
  have f2' := h.frozen (j * 4 + 1 + 1)
  have f3' := h.frozen (j * 4 + 1 + 1 + 1)
  have HR := Lib.hid h
  clear h
  by_cases hij : i = j
  · subst hij
    clear c0' c1' c2' c3' f0' f1' f2' f3'
    go_enter Try.func21, Try.ntmps21
    go_region
    go_end0
    have h2 := (HR.out.put i (nm i) (sz i)).put i (nm i) (sz i)
    exact ⟨rfl, h2.drew.congr fun q _ => ent_congr (fun k => by unfold sw; split <;> simp_all) (fun k => by unfold sw; split <;> simp_all) q, only_drew (grown_put (grown_put (World.grownBy.refl w _) _ _ _ _ _ _ _ _) _ _ _ _ _ _ _ _)⟩
  · have n00 : ¬ i * 4 = j * 4 := by omega
    have n00' : ¬ j * 4 = i * 4 := by omega
    go_enter Try.func21, Try.ntmps21
    go_region
    go_end0
    have h2 := (HR.out.put i (nm j) (sz j)).put j (nm i) (sz i)
    exact ⟨rfl, h2.drew.congr fun q _ => ent_congr (fun k => by unfold sw; split <;> simp_all) (fun k => by unfold sw; split <;> simp_all) q, only_drew (grown_put (grown_put (World.grownBy.refl w _) _ _ _ _ _ _ _ _) _ _ _ _ _ _ _ _)⟩
end Go.Proofs.Ytfhdcochplaalaa
