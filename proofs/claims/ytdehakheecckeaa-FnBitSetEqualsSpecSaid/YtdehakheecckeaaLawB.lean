/- The walk of the law FnBitSetEqualsSpec. -/
import Derived.Test.YtdehakheecckeaaLawA
import Derived.RegionTactic
namespace Go.Proofs.Ytdehakheecckeaa
open Go.RowKit
set_option linter.unusedVariables false
set_option linter.unusedSimpArgs false
theorem Try.info4 : (Try.prog.info? 4).map (fun i => (i.zero, i.size, i.bytes)) = some (some (.bool false), 1, 1) := by kernel_rfl

theorem zzB5 (x y : Int) (A A' : Option Addr) (n c m d : Nat) (hn : n ≤ maxLen) (hm : m ≤ maxLen) (w : World) : Calls Try.prog 5 #[.int .u64 x, .slice A n c, .int .u64 y, .slice A' m d] w fun e w' => e = .returned (.bool (decide (n + m ≤ 1048576))) ∧ w = w' := by
  unfold maxLen at hm hn
  go_enter Try.func5, Try.ntmps5
  go_wp2
  all_goals go_ret
  all_goals exact ⟨by simp <;> omega, rfl⟩
theorem zzB5_true (x y : Int) (A A' : Option Addr) (n c m d : Nat) (hn : n + m ≤ 1048576) (w : World) : Calls Try.prog 5 #[.int .u64 x, .slice A n c, .int .u64 y, .slice A' m d] w fun e w' => e = .returned (.bool true) ∧ w = w' :=
  (zzB5 x y A A' n c m d (by unfold maxLen; omega) (by unfold maxLen; omega) w).mono fun e w' h => by rw [show decide (n + m ≤ 1048576) = true by simpa using hn] at h; exact h

/-- The state of the law: two sets, two models, two lists. -/
structure Sq (B ba bb ga gb qa qb m m' : Nat) (A : Option Addr) (n : Nat) (f : Nat → Int) (A' : Option Addr) (n' : Nat) (f' : Nat → Int) (E1 E2 : Nat → Nat) (M1 M2 : Nat → Bool) (w wr : World) : Prop where
  ca : wr.cell? ⟨ba, 0, none⟩ = some (.slice (some ⟨ga, 0, none⟩) m m)
  cb : wr.cell? ⟨bb, 0, none⟩ = some (.slice (some ⟨gb, 0, none⟩) m' m')
  ra : wr.rowIs ga 5 m (fun i => .int .u8 (E1 i))
  rb : wr.rowIs gb 5 m' (fun i => .int .u8 (E2 i))
  ma : wr.rowIs qa 4 (m * 8) (fun i => .bool (M1 i))
  mb : wr.rowIs qb 4 (m' * 8) (fun i => .bool (M2 i))
  row : RowF wr B A n (fun i => .int .u64 (f i))
  row' : RowF wr B A' n' (fun i => .int .u64 (f' i))
  bel : Below w.heap.size w wr
  wB : w.heap.size ≤ B
  Bs : B ≤ ba ∧ B ≤ bb ∧ B ≤ ga ∧ B ≤ gb ∧ B ≤ qa ∧ B ≤ qb
  ne : ga ≠ gb ∧ ga ≠ ba ∧ ga ≠ bb ∧ gb ≠ ba ∧ gb ≠ bb
  neq : qa ≠ ga ∧ qa ≠ gb ∧ qa ≠ ba ∧ qa ≠ bb ∧ qb ≠ ga ∧ qb ≠ gb ∧ qb ≠ ba ∧ qb ≠ bb ∧ qa ≠ qb
  lt : ba < wr.heap.size ∧ bb < wr.heap.size

section
variable {B ba bb ga gb qa qb m m' : Nat} {A : Option Addr} {n : Nat} {f : Nat → Int} {A' : Option Addr} {n' : Nat} {f' : Nat → Int} {E1 E2 E1' E2' : Nat → Nat} {M1 M2 M1' M2' : Nat → Bool} {w wr wx : World}
/-- One block g, of the four rows, has turned, and new ones may have come. -/
theorem Sq.step (h : Sq B ba bb ga gb qa qb m m' A n f A' n' f' E1 E2 M1 M2 w wr) {g : Nat} (hg : wr.grownBy wx (some g)) (hB : B ≤ g) (hba : g ≠ ba) (hbb : g ≠ bb)
    (h1 : wx.rowIs ga 5 m (fun i => .int .u8 (E1' i))) (h2 : wx.rowIs gb 5 m' (fun i => .int .u8 (E2' i))) (h3 : wx.rowIs qa 4 (m * 8) (fun i => .bool (M1' i))) (h4 : wx.rowIs qb 4 (m' * 8) (fun i => .bool (M2' i))) :
    Sq B ba bb ga gb qa qb m m' A n f A' n' f' E1' E2' M1' M2' w wx where
  ca := (cell_grown hg (p := ⟨ba, 0, none⟩) h.lt.1 (fun e => hba e.symm)).trans h.ca
  cb := (cell_grown hg (p := ⟨bb, 0, none⟩) h.lt.2 (fun e => hbb e.symm)).trans h.cb
  ra := h1
  rb := h2
  ma := h3
  mb := h4
  row := h.row.keep fun p hp => cell_grown hg (by have := h.lt.1; have := h.Bs.1; omega) (by omega)
  row' := h.row'.keep fun p hp => cell_grown hg (by have := h.lt.1; have := h.Bs.1; omega) (by omega)
  bel := h.bel.trans ⟨hg.os, hg.tape, hg.output, hg.size, fun k hk => hg.block k (by have := h.bel.size; omega) (fun e => by have := h.wB; injection e with e; omega)⟩
  wB := h.wB
  Bs := h.Bs
  ne := h.ne
  neq := h.neq
  lt := ⟨Nat.lt_of_lt_of_le h.lt.1 hg.size, Nat.lt_of_lt_of_le h.lt.2 hg.size⟩
theorem row_grown {g b t q : Nat} {F : Nat → Value} (h : wr.rowIs b t q F) (hg : wr.grownBy wx (some g)) (hne : b ≠ g) : wx.rowIs b t q F := h.of_block (hg.block b h.lt (fun e => hne (by injection e)))
theorem grown_set {p : Addr} (u : Value) : wr.grownBy (wr.setCell p u) (some p.block) := only_setCell (World.grownBy.refl wr _) (.inl rfl) u

def setm (M : Nat → Bool) (x : Nat) : Nat → Bool := fun j => if j = x then true else M j
theorem Sq.setA (h : Sq B ba bb ga gb qa qb m m' A n f A' n' f' E1 E2 M1 M2 w wr) (hg : wr.grownBy wx (some ga)) (hr : wx.rowIs ga 5 m (fun i => .int .u8 (E1' i))) :
    Sq B ba bb ga gb qa qb m m' A n f A' n' f' E1' E2 M1 M2 w wx :=
  h.step hg h.Bs.2.2.1 h.ne.2.1 h.ne.2.2.1 hr (row_grown h.rb hg (fun e => h.ne.1 e.symm)) (row_grown h.ma hg h.neq.1) (row_grown h.mb hg h.neq.2.2.2.2.1)
theorem Sq.setB (h : Sq B ba bb ga gb qa qb m m' A n f A' n' f' E1 E2 M1 M2 w wr) (hg : wr.grownBy wx (some gb)) (hr : wx.rowIs gb 5 m' (fun i => .int .u8 (E2' i))) :
    Sq B ba bb ga gb qa qb m m' A n f A' n' f' E1 E2' M1 M2 w wx :=
  h.step hg h.Bs.2.2.2.1 h.ne.2.2.2.1 h.ne.2.2.2.2 (row_grown h.ra hg h.ne.1) hr (row_grown h.ma hg h.neq.2.1) (row_grown h.mb hg h.neq.2.2.2.2.2.1)
theorem Sq.modA (h : Sq B ba bb ga gb qa qb m m' A n f A' n' f' E1 E2 M1 M2 w wr) (x : Nat) :
    Sq B ba bb ga gb qa qb m m' A n f A' n' f' E1 E2 (setm M1 x) M2 w (wr.setCell ⟨qa, x, none⟩ (.bool true)) :=
  have hg := grown_set (wr := wr) (p := ⟨qa, x, none⟩) (.bool true)
  h.step hg h.Bs.2.2.2.2.1 h.neq.2.2.1 h.neq.2.2.2.1 (row_grown h.ra hg (fun e => h.neq.1 e.symm)) (row_grown h.rb hg (fun e => h.neq.2.1 e.symm)) ((h.ma.set x _).congr fun i _ => by unfold setm; split <;> rfl)
    (row_grown h.mb hg (fun e => h.neq.2.2.2.2.2.2.2.2 e.symm))
theorem Sq.modB (h : Sq B ba bb ga gb qa qb m m' A n f A' n' f' E1 E2 M1 M2 w wr) (x : Nat) :
    Sq B ba bb ga gb qa qb m m' A n f A' n' f' E1 E2 M1 (setm M2 x) w (wr.setCell ⟨qb, x, none⟩ (.bool true)) :=
  have hg := grown_set (wr := wr) (p := ⟨qb, x, none⟩) (.bool true)
  h.step hg h.Bs.2.2.2.2.2 h.neq.2.2.2.2.2.2.1 h.neq.2.2.2.2.2.2.2.1 (row_grown h.ra hg (fun e => h.neq.2.2.2.2.1 e.symm)) (row_grown h.rb hg (fun e => h.neq.2.2.2.2.2.1 e.symm))
    (row_grown h.ma hg h.neq.2.2.2.2.2.2.2.2) ((h.mb.set x _).congr fun i _ => by unfold setm; split <;> rfl)
end
theorem Sq.start {w w0 w1 w2 w3 : World} {A A' : Option Addr} {n n' : Nat} {f f' : Nat → Int} {m m' ga gb : Nat} (hrow0 : RowF w0 w0.heap.size A n (fun i => .int .u64 (f i))) (hb0 : Below w.heap.size w w0)
    (hrow : RowF w1 w1.heap.size A' n' (fun i => .int .u64 (f' i))) (hb1 : Below w0.heap.size w0 w1)
    (hga : w1.heap.size ≤ ga) (hra : w2.rowIs ga 5 m (fun _ => .int .u8 0)) (hb2 : Below w1.heap.size w1 w2)
    (hgb : (w2.alloc (.cells #[.slice (some ⟨ga, 0, none⟩) m m] 28)).heap.size ≤ gb) (hrb : w3.rowIs gb 5 m' (fun _ => .int .u8 0))
    (hb3 : Below (w2.alloc (.cells #[.slice (some ⟨ga, 0, none⟩) m m] 28)).heap.size (w2.alloc (.cells #[.slice (some ⟨ga, 0, none⟩) m m] 28)) w3) :
    Sq w1.heap.size w2.heap.size w3.heap.size ga gb (w3.heap.size + 1) (w3.heap.size + 2) m m' A n f A' n' f' (fun _ => 0) (fun _ => 0) (fun _ => false) (fun _ => false) w
      (((w3.alloc (.cells #[.slice (some ⟨gb, 0, none⟩) m' m'] 28)).alloc (.cells (madeCells #[.bool false] (m * 8)) 4)).alloc (.cells (madeCells #[.bool false] (m' * 8)) 4)) := by
  have s := St.start hrow (hb0.trans (hb1.mono hb0.size)) hga hra hb2 hgb hrb hb3
  have s2 := s
  have l3 := s.ra.lt
  have l4 := s.rb.lt
  have l5 := s.lt
  have hBs := s.Bs
  have s1 := hb1.size
  simp at l3 l4 l5
  have hrow2 := (hrow0.below hb1).more hb1.size
  have hlt : ∀ p : Addr, p.block < w1.heap.size → ((w3.alloc (.cells #[.slice (some ⟨gb, 0, none⟩) m' m'] 28))).cell? p = w1.cell? p := fun p hp => by
    have t2 := hb2.size
    have t3 := hb3.size
    simp at t3
    rw [World.cell?_alloc_old _ _ _ (by omega), hb3.cell (by simp; omega), World.cell?_alloc_old _ _ _ (by omega), hb2.cell hp]
  have ka := World.rowIs_made (w3.alloc (.cells #[.slice (some ⟨gb, 0, none⟩) m' m'] 28)) (.bool false) (m * 8) 4
  have kb := World.rowIs_made ((w3.alloc (.cells #[.slice (some ⟨gb, 0, none⟩) m' m'] 28)).alloc (.cells (madeCells #[.bool false] (m * 8)) 4)) (.bool false) (m' * 8) 4
  simp at ka kb
  exact {
    ca := by rw [World.cell?_alloc_old _ _ _ (by simp; omega), World.cell?_alloc_old _ _ _ (by simp; omega)]; exact s.ca
    cb := by rw [World.cell?_alloc_old _ _ _ (by simp; omega), World.cell?_alloc_old _ _ _ (by simp)]; exact s.cb
    ra := (s.ra.alloc _).alloc _
    rb := (s.rb.alloc _).alloc _
    ma := ka.alloc _
    mb := kb
    row := ((hrow2.keep hlt).keep fun p hp => World.cell?_alloc_old _ _ _ (by simp; omega)).keep fun p hp => World.cell?_alloc_old _ _ _ (by simp; omega)
    row' := (s.row.keep fun p hp => World.cell?_alloc_old _ _ _ (by simp; omega)).keep fun p hp => World.cell?_alloc_old _ _ _ (by simp; omega)
    bel := (s.bel.alloc s.bel.size _).alloc (by have := s.bel.size; simp at this ⊢; omega) _
    wB := s.wB
    Bs := ⟨by omega, by omega, by omega, by omega, by omega, by omega⟩
    ne := s.ne
    neq := ⟨by omega, by omega, by omega, by omega, by omega, by omega, by omega, by omega, by omega⟩
    lt := ⟨by simp; omega, by simp; omega⟩ }

/-- What the law compares: the models agree exactly where the bytes do. -/
theorem mod_step {f : Nat → Int} {N k x : Nat} {M : Nat → Bool} (h : ∀ j, M j = true ↔ Upto f N k j) (hx : f k = (x : Int)) (hN : x < N) (j : Nat) : setm M x j = true ↔ Upto f N (k + 1) j := by
  rw [← upto_succ hx hN j, ← h j]
  unfold setm
  split
  · simp [*]
  · simp [*]
theorem mod_skip {f : Nat → Int} {N k : Nat} {M : Nat → Bool} (h : ∀ j, M j = true ↔ Upto f N k j) (hb : (N : Int) ≤ f k) (j : Nat) : M j = true ↔ Upto f N (k + 1) j := by rw [h j, upto_skip hb]
theorem eqB_mod {m m' : Nat} {E1 E2 : Nat → Nat} {P1 P2 : Nat → Prop} {M1 M2 : Nat → Bool} (h1 : Bits P1 E1) (h2 : Bits P2 E2) (k1 : ∀ j, M1 j = true ↔ P1 j) (k2 : ∀ j, M2 j = true ↔ P2 j) :
    eqB m E1 m' E2 = decide (m = m' ∧ ∀ j, j < m * 8 → M1 j = M2 j) := by
  unfold eqB
  rw [decide_eq_decide]
  constructor
  · rintro ⟨rfl, h⟩
    refine ⟨rfl, fun j hj => ?_⟩
    rw [Bool.eq_iff_iff, k1, k2]
    have e := h (j / 8) (by omega)
    have a1 := h1 (j / 8) (j % 8)
    have a2 := h2 (j / 8) (j % 8)
    rw [e] at a1
    rw [show 8 * (j / 8) + j % 8 = j by omega] at a1 a2
    have l8 : j % 8 < 8 := Nat.mod_lt _ (by omega)
    rw [a1] at a2
    constructor
    · intro p; exact (a2.1 ⟨l8, p⟩).2
    · intro p; exact (a2.2 ⟨l8, p⟩).2
  · rintro ⟨rfl, h⟩
    refine ⟨rfl, fun i hi => Nat.eq_of_testBit_eq fun j => ?_⟩
    rw [Bool.eq_iff_iff, h1, h2]
    constructor
    · rintro ⟨a, p⟩
      exact ⟨a, (k2 _).1 (by rw [← h _ (by omega)]; exact (k1 _).2 p)⟩
    · rintro ⟨a, p⟩
      exact ⟨a, (k1 _).1 (by rw [h _ (by omega)]; exact (k2 _).2 p)⟩
end Go.Proofs.Ytdehakheecckeaa
