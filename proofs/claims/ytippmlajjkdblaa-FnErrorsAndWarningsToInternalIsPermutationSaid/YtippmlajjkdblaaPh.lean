/- What a group of cells says; a row is sorted: its pairs of group and meaning are permuted. -/
import Derived.Test.YtippmlajjkdblaaPg
namespace Go.Proofs.Ytippmlajjkdblaa
open Go.RowKit
set_option linter.unusedVariables false
set_option linter.unusedSimpArgs false
def IsRaw (w : World) (Z : Nat → Prop) (l : Option Nat) : Option LocA → Prop
  | none => l = none
  | some L => ∃ b, l = some b ∧ Z b ∧ Raw w b L
theorem IsRaw.keep {w w' : World} {Z Z' : Nat → Prop} {l : Option Nat} {o : Option LocA} (h : IsRaw w Z l o) (hz : ∀ g, Z g → g < w.heap.size → Z' g) (hk : ∀ g, Z g → g < w.heap.size → w'.heap[g]? = w.heap[g]?) (hs : w.heap.size ≤ w'.heap.size) : IsRaw w' Z' l o := by
  cases o with
  | none => exact h
  | some p => obtain ⟨g, rfl, hg, hp⟩ := h; exact ⟨g, rfl, hz g hg hp.lt, hp.keep (hk g hg hp.lt) hs⟩
/-- A raw message. -/
structure MsgR where
  plugin : ByteArray
  text : ByteArray
  loc : Option LocA
  n : Nat
  T : Nat → ByteArray
  O : Nat → Option LocA
  kind : Int
  id : Int
def IsRawNotes (w : World) (Z : Nat → Prop) (A : Option Addr) (k c n : Nat) (T : Nat → ByteArray) (O : Nat → Option LocA) : Prop :=
  k = n ∧ ((n = 0 ∧ A = none ∧ c = 0) ∨ (0 < n ∧ ∃ g, A = some ⟨g, 0, none⟩ ∧ Z g ∧ g < w.heap.size ∧ ∀ j, j < n → w.cell? ⟨g, j * 4, none⟩ = some .nilIface ∧ w.cell? ⟨g, j * 4 + 2, none⟩ = some (.string (T j)) ∧ w.cell? ⟨g, j * 4 + 3, none⟩ = some (.bool false) ∧ ∃ l, w.cell? ⟨g, j * 4 + 1, none⟩ = some (locv l) ∧ IsRaw w Z l (O j)))
theorem IsRawNotes.keep {w w' : World} {Z Z' : Nat → Prop} {A : Option Addr} {k c n : Nat} {T : Nat → ByteArray} {O : Nat → Option LocA} (h : IsRawNotes w Z A k c n T O) (hz : ∀ g, Z g → g < w.heap.size → Z' g) (hk : ∀ g, Z g → g < w.heap.size → w'.heap[g]? = w.heap[g]?) (hs : w.heap.size ≤ w'.heap.size) : IsRawNotes w' Z' A k c n T O := by
  obtain ⟨e, h⟩ := h
  refine ⟨e, ?_⟩
  rcases h with h | ⟨hn, g, rfl, hg, hlt, hc⟩
  · exact Or.inl h
  · have e : ∀ i, w'.cell? ⟨g, i, none⟩ = w.cell? ⟨g, i, none⟩ := fun i => by simp only [World.cell?, hk g hg hlt]
    refine Or.inr ⟨hn, g, rfl, hz g hg hlt, Nat.lt_of_lt_of_le hlt hs, fun j hj => ?_⟩
    obtain ⟨h0, h2, h3, vl, h1, hl⟩ := hc j hj
    exact ⟨(e _).trans h0, (e _).trans h2, (e _).trans h3, vl, (e _).trans h1, hl.keep hz hk hs⟩
/-- Group q says m. -/
structure IsG (w : World) (Z : Nat → Prop) (q : Grp) (m : MsgR) : Prop where
  p : q.p = m.plugin
  t : q.t = m.text
  kind : q.kind = m.kind
  id : q.id = m.id
  le : m.n ≤ 1048576
  notes : IsRawNotes w Z q.A q.n q.c m.n m.T m.O
  loc : IsRaw w Z q.l m.loc
theorem IsG.keep {w w' : World} {Z Z' : Nat → Prop} {q : Grp} {m : MsgR} (h : IsG w Z q m) (hz : ∀ g, Z g → g < w.heap.size → Z' g) (hk : ∀ g, Z g → g < w.heap.size → w'.heap[g]? = w.heap[g]?) (hs : w.heap.size ≤ w'.heap.size) : IsG w' Z' q m :=
  ⟨h.p, h.t, h.kind, h.id, h.le, h.notes.keep hz hk hs, h.loc.keep hz hk hs⟩
section
variable {α : Type}
def ind (b : Bool) : Nat := if b then 1 else 0
def cnt (p : α → Bool) (Q : Nat → α) : Nat → Nat
  | 0 => 0
  | n + 1 => cnt p Q n + ind (p (Q n))
def upd (Q : Nat → α) (i : Nat) (q : α) : Nat → α := fun k => if k = i then q else Q k
def swap2 (Q : Nat → α) (i j : Nat) : Nat → α := upd (upd Q i (Q j)) j (Q i)
theorem cnt_congr {p : α → Bool} {Q Q' : Nat → α} : ∀ {n : Nat}, (∀ i, i < n → Q i = Q' i) → cnt p Q n = cnt p Q' n
  | 0, _ => rfl
  | n + 1, h => by
    rw [cnt, cnt, cnt_congr (fun i hi => h i (by omega)), h n (by omega)]
theorem cnt_upd (p : α → Bool) (Q : Nat → α) (i : Nat) (q : α) : ∀ n, i < n → cnt p (upd Q i q) n + ind (p (Q i)) = cnt p Q n + ind (p q)
  | 0, h => by omega
  | n + 1, h => by
    by_cases hi : i = n
    · subst hi
      rw [cnt, cnt, cnt_congr (Q := upd Q i q) (Q' := Q) (fun k hk => by simp [upd, show k ≠ i by omega])]
      simp [upd]
      omega
    · have := cnt_upd p Q i q n (by omega)
      rw [cnt, cnt, show upd Q i q n = Q n by simp [upd, show n ≠ i by omega]]
      omega
theorem cnt_swap (p : α → Bool) (Q : Nat → α) (i j n : Nat) (hi : i < n) (hj : j < n) : cnt p (swap2 Q i j) n = cnt p Q n := by
  have h1 := cnt_upd p (upd Q i (Q j)) j (Q i) n hj
  have h2 := cnt_upd p Q i (Q j) n hi
  rw [show upd Q i (Q j) j = Q j by unfold upd; split <;> simp_all] at h1
  unfold swap2
  omega
end
/-- Pairs: group and meaning. -/
abbrev PQ := Nat → Grp × MsgR
def fstQ (P : PQ) : Nat → Grp := fun k => (P k).1
/-- The world wr holds a permutation of w's row. -/
structure Perms (w : World) (g n : Nat) (P : PQ) (wr : World) (P' : PQ) : Prop where
  row : MRow wr g n (fstQ P')
  src : ∀ i, i < n → ∃ k, k < n ∧ P' i = P k
  cnt : ∀ p : Grp × MsgR → Bool, cnt p P' n = cnt p P n
  gr : w.grownBy wr (some g)
theorem grown_trans {a b c : World} {g : Nat} (h1 : a.grownBy b (some g)) (h2 : b.grownBy c (some g)) : a.grownBy c (some g) :=
  ⟨h2.os.trans h1.os, h2.tape.trans h1.tape, h2.output.trans h1.output, Nat.le_trans h1.size h2.size, fun k hk hne => (h2.block k (Nat.lt_of_lt_of_le hk h1.size) hne).trans (h1.block k hk hne)⟩
theorem si (w : World) (g n c : Nat) (P : PQ) (hG : ∀ i, i < n → IsG w (fun b => b ≠ g) (P i).1 (P i).2) (hn : n ≤ 1048576) : SI (fun wr => ∃ P', Perms w g n P wr P') g n c := by
  constructor
  · intro wr i j x y ⟨P', h⟩ hx hy hi hj
    subst hx hy
    have hlo : LocsOK wr g n (fstQ P') := by
      intro k hk b hb
      obtain ⟨k', hk', e⟩ := h.src k hk
      have hq := hG k' hk'
      rw [← e] at hq
      have hl := hq.loc
      cases hm : (P' k).2.loc with
      | none => rw [hm] at hl; rw [fstQ, show (P' k).1.l = none from hl] at hb; cases hb
      | some L =>
        rw [hm] at hl
        obtain ⟨b', e', hne, hr⟩ := hl
        rw [fstQ, e'] at hb
        injection hb with hb
        subst hb
        exact ⟨hne, L, hr.keep (h.gr.block _ hr.lt (fun e => by injection e with e; exact hne e)) h.gr.size⟩
    refine (less g n c i j _ wr h.row hlo hi hj hn).mono ?_
    rintro e w' ⟨h1, h2⟩
    exact ⟨h1, P', h.row.keep (h2.block g h.row.lt), h.src, h.cnt, grown_trans h.gr (only_of_below h2 _)⟩
  · intro wr i j x y ⟨P', h⟩ hx hy hi hj
    refine (swap g n c i j x y _ wr h.row hx hy hi hj hn).mono ?_
    rintro e w' ⟨rfl, h1, h2⟩
    refine ⟨rfl, swap2 P' i j, ?_, fun k hk => ?_, fun p => (cnt_swap p P' i j n hi hj).trans (h.cnt p), grown_trans h.gr h2⟩
    · have : fstQ (swap2 P' i j) = swQ (fstQ P') i j := by
        funext k
        simp only [fstQ, swap2, swQ, upd, updQ]
        split
        · rfl
        · split <;> rfl
      rw [this]
      exact h1
    · simp only [swap2, upd]
      split
      · exact h.src i hi
      · split
        · exact h.src j hj
        · exact h.src k hk
theorem sorted (w : World) (g n c : Nat) (P : PQ) (hr : MRow w g n (fstQ P)) (hG : ∀ i, i < n → IsG w (fun b => b ≠ g) (P i).1 (P i).2) (hn : n ≤ 1048576) :
    Calls Try.prog 16 #[.iface 55 (.slice (some ⟨g, 0, none⟩) n c)] w fun e w' => e = .returned (.tuple #[]) ∧ ∃ P', Perms w g n P w' P' :=
  sortStable _ g n c (si w g n c P hG hn) w ⟨P, hr, fun i hi => ⟨i, hi, rfl⟩, fun _ => rfl, World.grownBy.refl w _⟩ hn
end Go.Proofs.Ytippmlajjkdblaa
