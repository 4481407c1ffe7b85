/- Messages that come in: read as lists; the law's arguments opened; locBytes, buildLoc. -/
import Derived.Test.YtippmlajjkdblaaPk
import Derived.Lib.SmallJoins
namespace Go.Proofs.Ytippmlajjkdblaa
open Go.RowKit Go.Joins Go.ChangeShapes Go.WideShapes Go.Deep
set_option linter.unusedVariables false
set_option linter.unusedSimpArgs false
/-- A location as the law describes it. -/
structure ZLo where
  P : Bool
  F : ByteArray
  N : ByteArray
  i : Int
  j : Int
  k : Int
  T : ByteArray
  S : ByteArray
def ZLo.vs (z : ZLo) : List Value := [.bool z.P, .string z.F, .string z.N, .int .i64 z.i, .int .i64 z.j, .int .i64 z.k, .string z.T, .string z.S]
structure ZLo.Ok (z : ZLo) : Prop where
  F : z.F.size ≤ 9223372036854775807
  N : z.N.size ≤ 9223372036854775807
  T : z.T.size ≤ 9223372036854775807
  S : z.S.size ≤ 9223372036854775807
def ZLo.sz (z : ZLo) : Nat := z.F.size + z.N.size + z.T.size + z.S.size
/-- The cells of a location at b, q. -/
structure LCells (w : World) (b q : Nat) (z : ZLo) : Prop where
  c0 : w.cell? ⟨b, q, none⟩ = some (.bool z.P)
  c1 : w.cell? ⟨b, q + 1, none⟩ = some (.string z.F)
  c2 : w.cell? ⟨b, q + 2, none⟩ = some (.string z.N)
  c3 : w.cell? ⟨b, q + 3, none⟩ = some (.int .i64 z.i)
  c4 : w.cell? ⟨b, q + 4, none⟩ = some (.int .i64 z.j)
  c5 : w.cell? ⟨b, q + 5, none⟩ = some (.int .i64 z.k)
  c6 : w.cell? ⟨b, q + 6, none⟩ = some (.string z.T)
  c7 : w.cell? ⟨b, q + 7, none⟩ = some (.string z.S)
  ok : z.Ok
theorem LCells.keep {w w' : World} {b q : Nat} {z : ZLo} (h : LCells w b q z) (hk : w'.heap[b]? = w.heap[b]?) : LCells w' b q z := by
  have e : ∀ i, w'.cell? ⟨b, i, none⟩ = w.cell? ⟨b, i, none⟩ := fun i => by simp only [World.cell?, hk]
  exact ⟨(e _).trans h.c0, (e _).trans h.c1, (e _).trans h.c2, (e _).trans h.c3, (e _).trans h.c4, (e _).trans h.c5, (e _).trans h.c6, (e _).trans h.c7, h.ok⟩
/-- A note's cells. -/
structure NCells (w : World) (b q : Nat) (T : ByteArray) (z : ZLo) : Prop where
  c0 : w.cell? ⟨b, q, none⟩ = some (.string T)
  ok : T.size ≤ 9223372036854775807
  l : LCells w b (q + 1) z
def InNotes (w : World) (B : Nat) (A : Option Addr) (n : Nat) (T : Nat → ByteArray) (O : Nat → ZLo) : Prop :=
  0 < n → ∃ b o, A = some ⟨b, o, none⟩ ∧ b < B ∧ ∀ j, j < n → NCells w b (o + j * 9) (T j) (O j)
/-- A message as the law describes it. -/
structure ZM where
  I : ByteArray
  G : ByteArray
  X : ByteArray
  L : ZLo
  n : Nat
  T : Nat → ByteArray
  O : Nat → ZLo
structure MCells (w : World) (B : Nat) (b q : Nat) (m : ZM) : Prop where
  c0 : w.cell? ⟨b, q, none⟩ = some (.string m.I)
  c1 : w.cell? ⟨b, q + 1, none⟩ = some (.string m.G)
  c2 : w.cell? ⟨b, q + 2, none⟩ = some (.string m.X)
  k0 : m.I.size ≤ 9223372036854775807
  k1 : m.G.size ≤ 9223372036854775807
  k2 : m.X.size ≤ 9223372036854775807
  l : LCells w b (q + 3) m.L
  s : ∃ A c, w.cell? ⟨b, q + 11, none⟩ = some (.slice A m.n c) ∧ InNotes w B A m.n m.T m.O ∧ (A = none → c = 0) ∧ m.n ≤ c ∧ c ≤ 9223372036854775807
def InMsgs (w : World) (B : Nat) (A : Option Addr) (n : Nat) (M : Nat → ZM) : Prop :=
  0 < n → ∃ b o, A = some ⟨b, o, none⟩ ∧ b < B ∧ ∀ i, i < n → MCells w B b (o + i * 12) (M i)
theorem NCells.keep {w w' : World} {b q : Nat} {T : ByteArray} {z : ZLo} (h : NCells w b q T z) (hk : w'.heap[b]? = w.heap[b]?) : NCells w' b q T z := by
  have e : ∀ i, w'.cell? ⟨b, i, none⟩ = w.cell? ⟨b, i, none⟩ := fun i => by simp only [World.cell?, hk]
  exact ⟨(e _).trans h.c0, h.ok, h.l.keep hk⟩
theorem InNotes.keep {w w' : World} {B B' : Nat} {A : Option Addr} {n : Nat} {T : Nat → ByteArray} {O : Nat → ZLo} (h : InNotes w B A n T O) (hk : ∀ b, b < B → w'.heap[b]? = w.heap[b]?) (hB : B ≤ B') : InNotes w' B' A n T O := fun hn => by
  obtain ⟨b, o, e, hb, hc⟩ := h hn
  exact ⟨b, o, e, by omega, fun j hj => (hc j hj).keep (hk b hb)⟩
theorem MCells.keep {w w' : World} {B B' b q : Nat} {m : ZM} (h : MCells w B b q m) (hb : b < B) (hk : ∀ b, b < B → w'.heap[b]? = w.heap[b]?) (hB : B ≤ B') : MCells w' B' b q m := by
  have e : ∀ i, w'.cell? ⟨b, i, none⟩ = w.cell? ⟨b, i, none⟩ := fun i => by simp only [World.cell?, hk b hb]
  obtain ⟨A, c, h1, h2, h3⟩ := h.s
  exact ⟨(e _).trans h.c0, (e _).trans h.c1, (e _).trans h.c2, h.k0, h.k1, h.k2, h.l.keep (hk b hb), A, c, (e _).trans h1, h2.keep hk hB, h3⟩
theorem InMsgs.keep {w w' : World} {B B' : Nat} {A : Option Addr} {n : Nat} {M : Nat → ZM} (h : InMsgs w B A n M) (hk : ∀ b, b < B → w'.heap[b]? = w.heap[b]?) (hB : B ≤ B') : InMsgs w' B' A n M := fun hn => by
  obtain ⟨b, o, e, hb, hc⟩ := h hn
  exact ⟨b, o, e, by omega, fun i hi => (hc i hi).keep hb hk hB⟩
theorem InMsgs.below {w w' : World} {B : Nat} {A : Option Addr} {n : Nat} {M : Nat → ZM} (h : InMsgs w B A n M) (hb : Below B w w') : InMsgs w' B A n M := h.keep (fun b hB => hb.block b hB) (Nat.le_refl _)
theorem InNotes.below {w w' : World} {B : Nat} {A : Option Addr} {n : Nat} {T : Nat → ByteArray} {O : Nat → ZLo} (h : InNotes w B A n T O) (hb : Below B w w') : InNotes w' B A n T O := h.keep (fun b hB => hb.block b hB) (Nat.le_refl _)
theorem MCells.below {w w' : World} {B b q : Nat} {m : ZM} (h : MCells w B b q m) (hb : b < B) (h' : Below B w w') : MCells w' B b q m := h.keep hb (fun b hB => h'.block b hB) (Nat.le_refl _)

section
variable {H : Type} {enc : TypeId × Value → H} {w : World} {held : Bool}
theorem trod_zl {fuel : Nat} {cs : List Value} {x : DataW H × List MemPlace} (h : DataW.trod enc Try.prog w 0 (fun _ => true) held fuel 40 cs = some x) : ∃ z : ZLo, cs = z.vs ∧ z.Ok := by
  obtain ⟨xs, n, _, hx, hl, hlen, hg⟩ := DataW.trod_struct Try.underlying40 h
  have hl8 : cs.length = 8 := hl.trans (by kernel_rfl)
  match cs, hl8 with
  | [v0, v1, v2, v3, v4, v5, v6, v7], _ =>
    match xs, hlen with
    | [y0, y1, y2, y3, y4, y5, y6, y7], _ =>
      have cB : Try.prog.cellsOf 4 = 1 := by kernel_rfl
      have cS : Try.prog.cellsOf 9 = 1 := by kernel_rfl
      have cI : Try.prog.cellsOf 3 = 1 := by kernel_rfl
      have h0 : DataW.trod enc Try.prog w 0 (fun _ => true) held n 4 (([v0, v1, v2, v3, v4, v5, v6, v7]).drop 0 |>.take (Try.prog.cellsOf 4)) = some y0 := hg 0 _ rfl
      rw [cB] at h0
      have h1 : DataW.trod enc Try.prog w 0 (fun _ => true) held n 9 (([v0, v1, v2, v3, v4, v5, v6, v7]).drop 1 |>.take (Try.prog.cellsOf 9)) = some y1 := hg 1 _ rfl
      rw [cS] at h1
      have h2 : DataW.trod enc Try.prog w 0 (fun _ => true) held n 9 (([v0, v1, v2, v3, v4, v5, v6, v7]).drop 2 |>.take (Try.prog.cellsOf 9)) = some y2 := hg 2 _ rfl
      rw [cS] at h2
      have h3 : DataW.trod enc Try.prog w 0 (fun _ => true) held n 3 (([v0, v1, v2, v3, v4, v5, v6, v7]).drop 3 |>.take (Try.prog.cellsOf 3)) = some y3 := hg 3 _ rfl
      rw [cI] at h3
      have h4 : DataW.trod enc Try.prog w 0 (fun _ => true) held n 3 (([v0, v1, v2, v3, v4, v5, v6, v7]).drop 4 |>.take (Try.prog.cellsOf 3)) = some y4 := hg 4 _ rfl
      rw [cI] at h4
      have h5 : DataW.trod enc Try.prog w 0 (fun _ => true) held n 3 (([v0, v1, v2, v3, v4, v5, v6, v7]).drop 5 |>.take (Try.prog.cellsOf 3)) = some y5 := hg 5 _ rfl
      rw [cI] at h5
      have h6 : DataW.trod enc Try.prog w 0 (fun _ => true) held n 9 (([v0, v1, v2, v3, v4, v5, v6, v7]).drop 6 |>.take (Try.prog.cellsOf 9)) = some y6 := hg 6 _ rfl
      rw [cS] at h6
      have h7 : DataW.trod enc Try.prog w 0 (fun _ => true) held n 9 (([v0, v1, v2, v3, v4, v5, v6, v7]).drop 7 |>.take (Try.prog.cellsOf 9)) = some y7 := hg 7 _ rfl
      rw [cS] at h7
      simp only [List.drop_succ_cons, List.drop_zero, List.take_succ_cons, List.take_zero] at h0 h1 h2 h3 h4 h5 h6 h7
      obtain ⟨P, e0, _⟩ := DataW.trod_bool Try.underlying4 h0
      obtain ⟨F, e1, _, wF⟩ := DataW.trod_string Try.underlying9 h1
      obtain ⟨N, e2, _, wN⟩ := DataW.trod_string Try.underlying9 h2
      obtain ⟨i, e3, _, _⟩ := DataW.trod_int Try.underlying3 h3
      obtain ⟨j, e4, _, _⟩ := DataW.trod_int Try.underlying3 h4
      obtain ⟨k, e5, _, _⟩ := DataW.trod_int Try.underlying3 h5
      obtain ⟨T, e6, _, wT⟩ := DataW.trod_string Try.underlying9 h6
      obtain ⟨S, e7, _, wS⟩ := DataW.trod_string Try.underlying9 h7
      simp at e0 e1 e2 e3 e4 e5 e6 e7
      subst e0 e1 e2 e3 e4 e5 e6 e7
      unfold maxLen at wF wN wT wS
      exact ⟨⟨P, F, N, i, j, k, T, S⟩, rfl, ⟨by show F.size ≤ _; omega, by show N.size ≤ _; omega, by show T.size ≤ _; omega, by show S.size ≤ _; omega⟩⟩
theorem lcells {w : World} {b q : Nat} {z : ZLo} (ok : z.Ok) (h : ∀ j v, z.vs[j]? = some v → w.cell? ⟨b, q + j, none⟩ = some v) : LCells w b q z :=
  ⟨h 0 _ rfl, h 1 _ rfl, h 2 _ rfl, h 3 _ rfl, h 4 _ rfl, h 5 _ rfl, h 6 _ rfl, h 7 _ rfl, ok⟩
/-- Cells read in a row. -/
theorem cells_at {w : World} {a : Addr} {k : Nat} {cs : List Value} (h : w.cells? 0 a k = some cs) (hk : 0 < k) : a.spot = none ∧ a.block < w.heap.size ∧ cs.length = k ∧ ∀ j v, cs[j]? = some v → w.cell? ⟨a.block, a.off + j, none⟩ = some v := by
  obtain ⟨_, hlen, hat⟩ := World.cells?_some h
  obtain ⟨b, o, spot⟩ := a
  have h0 := hat 0 hk
  rw [List.getElem?_eq_getElem (by omega)] at h0
  have hspot : spot = none := by simpa [Addr.add] using World.cell?_spot h0
  subst hspot
  refine ⟨rfl, ?_, hlen, fun j v hj => ?_⟩
  · have := block_lt_of_cell h0
    rwa [add_block] at this
  · have hjk : j < k := by rw [← hlen]; exact (List.getElem?_eq_some_iff.1 hj).1
    have := hat j hjk
    rw [add_flat] at this
    exact this.trans hj
theorem trod_note {fuel : Nat} {cs : List Value} {x : DataW H × List MemPlace} (h : DataW.trod enc Try.prog w 0 (fun _ => true) held fuel 45 cs = some x) : ∃ (T : ByteArray) (z : ZLo), cs = .string T :: z.vs ∧ z.Ok ∧ T.size ≤ 9223372036854775807 := by
  obtain ⟨xs, n, _, hx, hl, hlen, hg⟩ := DataW.trod_struct Try.underlying45 h
  have cS : Try.prog.cellsOf 9 = 1 := by kernel_rfl
  have cZ : Try.prog.cellsOf 40 = 8 := by kernel_rfl
  have hl9 : cs.length = 9 := hl.trans (by kernel_rfl)
  match cs, hl9 with
  | v0 :: rest, hr =>
    match xs, hlen with
    | [y0, y1], _ =>
      have h0 : DataW.trod enc Try.prog w 0 (fun _ => true) held n 9 ((v0 :: rest).drop 0 |>.take (Try.prog.cellsOf 9)) = some y0 := hg 0 _ rfl
      rw [cS] at h0
      have h1 : DataW.trod enc Try.prog w 0 (fun _ => true) held n 40 ((v0 :: rest).drop 1 |>.take (Try.prog.cellsOf 40)) = some y1 := hg 1 _ rfl
      rw [cZ] at h1
      simp only [List.drop_succ_cons, List.drop_zero, List.take_succ_cons, List.take_zero] at h0 h1
      rw [List.take_of_length_le (by simp at hr; omega)] at h1
      obtain ⟨T, e0, _, wT⟩ := DataW.trod_string Try.underlying9 h0
      obtain ⟨z, rfl, ok⟩ := trod_zl h1
      simp at e0
      subst e0
      unfold maxLen at wT
      exact ⟨T, z, rfl, ok, by omega⟩
theorem trod_notes {fuel n c : Nat} {A : Option Addr} {x : DataW H × List MemPlace} (h : DataW.trod enc Try.prog w 0 (fun _ => true) held fuel 41 [.slice A n c] = some x) :
    ∃ (T : Nat → ByteArray) (O : Nat → ZLo), InNotes w w.heap.size A n T O ∧ (A = none → c = 0) ∧ n ≤ c ∧ c ≤ 9223372036854775807 := by
  rcases open_slice Try.underlying41 h with ⟨hcs, _⟩ | ⟨a, len, cap, m, k, D, Pl, hcs, hb, hl, hm, hmm, hx, hi⟩
  · simp at hcs
    obtain ⟨rfl, rfl, rfl⟩ := hcs
    exact ⟨fun _ => ⟨#[]⟩, fun _ => ⟨false, ⟨#[]⟩, ⟨#[]⟩, 0, 0, 0, ⟨#[]⟩, ⟨#[]⟩⟩, fun h => absurd h (by omega), fun _ => rfl, Nat.le_refl _, by omega⟩
  · simp at hcs
    obtain ⟨rfl, rfl, rfl⟩ := hcs
    have hmc : m = c := by simpa using hmm
    subst hmc
    have c9 : Try.prog.cellsOf 45 = 9 := by kernel_rfl
    rw [c9] at hi
    unfold maxLen at hm
    have hall : ∀ i, ∃ p : ByteArray × ZLo, i < m → (a.add (i * 9)).spot = none ∧ a.block < w.heap.size ∧ NCells w a.block (a.add (i * 9)).off p.1 p.2 := fun i => by
      by_cases him : i < m
      · obtain ⟨cs', h1, h2⟩ := hi i him
        obtain ⟨T, z, rfl, ok, hT⟩ := trod_note h2
        obtain ⟨hs, hbl, _, hc⟩ := cells_at h1 (by omega)
        rw [add_block] at hbl hc
        refine ⟨(T, z), fun _ => ⟨hs, hbl, hc 0 _ rfl, hT, lcells ok fun j v hj => ?_⟩⟩
        rw [Nat.add_assoc, Nat.add_comm 1 j]
        exact hc (j + 1) v hj
      · exact ⟨(⟨#[]⟩, ⟨false, ⟨#[]⟩, ⟨#[]⟩, 0, 0, 0, ⟨#[]⟩, ⟨#[]⟩⟩), fun h => absurd h him⟩
    obtain ⟨f, hf⟩ := Classical.axiomOfChoice hall
    refine ⟨fun i => (f i).1, fun i => (f i).2, fun hn => ?_, (fun h => by cases h), hl, by omega⟩
    obtain ⟨b, o, spot⟩ := a
    have hs : spot = none := by simpa [Addr.add] using (hf 0 (by omega)).1
    subst hs
    refine ⟨b, o, rfl, (hf 0 (by omega)).2.1, fun j hj => ?_⟩
    have := (hf j (by omega)).2.2
    rw [add_flat] at this
    exact this
theorem trod_msg {fuel : Nat} {cs : List Value} {x : DataW H × List MemPlace} (h : DataW.trod enc Try.prog w 0 (fun _ => true) held fuel 43 cs = some x) :
    ∃ (m : ZM) (A : Option Addr) (c : Nat), cs = .string m.I :: .string m.G :: .string m.X :: (m.L.vs ++ [.slice A m.n c]) ∧ m.L.Ok ∧ m.I.size ≤ 9223372036854775807 ∧ m.G.size ≤ 9223372036854775807 ∧ m.X.size ≤ 9223372036854775807 ∧
      InNotes w w.heap.size A m.n m.T m.O ∧ (A = none → c = 0) ∧ m.n ≤ c ∧ c ≤ 9223372036854775807 := by
  obtain ⟨xs, n, _, hx, hl, hlen, hg⟩ := DataW.trod_struct Try.underlying43 h
  have cS : Try.prog.cellsOf 9 = 1 := by kernel_rfl
  have cZ : Try.prog.cellsOf 40 = 8 := by kernel_rfl
  have cN : Try.prog.cellsOf 41 = 1 := by kernel_rfl
  have hl12 : cs.length = 12 := hl.trans (by kernel_rfl)
  match cs, hl12 with
  | v0 :: v1 :: v2 :: rest, hr =>
    match xs, hlen with
    | [y0, y1, y2, y3, y4], _ =>
      have h0 : DataW.trod enc Try.prog w 0 (fun _ => true) held n 9 ((v0 :: v1 :: v2 :: rest).drop 0 |>.take (Try.prog.cellsOf 9)) = some y0 := hg 0 _ rfl
      rw [cS] at h0
      have h1 : DataW.trod enc Try.prog w 0 (fun _ => true) held n 9 ((v0 :: v1 :: v2 :: rest).drop 1 |>.take (Try.prog.cellsOf 9)) = some y1 := hg 1 _ rfl
      rw [cS] at h1
      have h2 : DataW.trod enc Try.prog w 0 (fun _ => true) held n 9 ((v0 :: v1 :: v2 :: rest).drop 2 |>.take (Try.prog.cellsOf 9)) = some y2 := hg 2 _ rfl
      rw [cS] at h2
      have h3 : DataW.trod enc Try.prog w 0 (fun _ => true) held n 40 ((v0 :: v1 :: v2 :: rest).drop 3 |>.take (Try.prog.cellsOf 40)) = some y3 := hg 3 _ rfl
      rw [cZ] at h3
      have h4 : DataW.trod enc Try.prog w 0 (fun _ => true) held n 41 ((v0 :: v1 :: v2 :: rest).drop 11 |>.take (Try.prog.cellsOf 41)) = some y4 := hg 4 _ rfl
      rw [cN] at h4
      simp only [List.drop_succ_cons, List.drop_zero, List.take_succ_cons, List.take_zero] at h0 h1 h2 h3 h4
      obtain ⟨I, e0, _, wI⟩ := DataW.trod_string Try.underlying9 h0
      obtain ⟨G, e1, _, wG⟩ := DataW.trod_string Try.underlying9 h1
      obtain ⟨X, e2, _, wX⟩ := DataW.trod_string Try.underlying9 h2
      obtain ⟨z, e3, ok⟩ := trod_zl h3
      have hd : rest.drop 8 = [rest[8]'(by simp at hr; omega)] := by
        rw [List.drop_eq_getElem_cons (by simp at hr; omega), List.drop_eq_nil_of_le (by simp at hr; omega)]
      rw [hd, List.take_of_length_le (by simp)] at h4
      obtain ⟨A, k, c, e4⟩ : ∃ A k c, rest[8]'(by simp at hr; omega) = .slice A k c := by
        rcases open_slice Try.underlying41 h4 with ⟨hcs, _⟩ | ⟨a, len, cap, m, k, D, Pl, hcs, _⟩
        · exact ⟨_, _, _, by injection hcs⟩
        · exact ⟨_, _, _, by injection hcs⟩
      rw [e4] at h4 hd
      obtain ⟨T, O, hn, h5⟩ := trod_notes h4
      simp at e0 e1 e2
      subst e0 e1 e2
      unfold maxLen at wI wG wX
      refine ⟨⟨I, G, X, z, k, T, O⟩, A, c, ?_, ok, by show I.size ≤ _; omega, by show G.size ≤ _; omega, by show X.size ≤ _; omega, hn, h5⟩
      show _ :: _ :: _ :: rest = _ :: _ :: _ :: (z.vs ++ [.slice A k c])
      rw [← e3, ← hd, List.take_append_drop]
theorem trod_msgs {n c : Nat} {A : Option Addr} {d : DataW H} {p : List MemPlace} (h : DataW.Trod enc Try.prog w 0 (fun _ => true) held 22 (.slice A n c) d p) :
    ∃ M : Nat → ZM, InMsgs w w.heap.size A n M ∧ n ≤ c ∧ c ≤ 9223372036854775807 := by
  obtain ⟨fuel, h⟩ := h
  rcases open_slice Try.underlying22 h with ⟨hcs, _⟩ | ⟨a, len, cap, m, k, D, Pl, hcs, hb, hl, hm, hmm, hx, hi⟩
  · simp [Value.cells] at hcs
    obtain ⟨rfl, rfl, rfl⟩ := hcs
    exact ⟨fun _ => ⟨⟨#[]⟩, ⟨#[]⟩, ⟨#[]⟩, ⟨false, ⟨#[]⟩, ⟨#[]⟩, 0, 0, 0, ⟨#[]⟩, ⟨#[]⟩⟩, 0, fun _ => ⟨#[]⟩, fun _ => ⟨false, ⟨#[]⟩, ⟨#[]⟩, 0, 0, 0, ⟨#[]⟩, ⟨#[]⟩⟩⟩, fun h => absurd h (by omega), Nat.le_refl _, by omega⟩
  · simp [Value.cells] at hcs
    obtain ⟨rfl, rfl, rfl⟩ := hcs
    have hmc : m = c := by simpa using hmm
    subst hmc
    have c12 : Try.prog.cellsOf 43 = 12 := by kernel_rfl
    rw [c12] at hi
    unfold maxLen at hm
    have hall : ∀ i, ∃ p : ZM, i < m → (a.add (i * 12)).spot = none ∧ a.block < w.heap.size ∧ MCells w w.heap.size a.block (a.add (i * 12)).off p := fun i => by
      by_cases him : i < m
      · obtain ⟨cs', h1, h2⟩ := hi i him
        obtain ⟨p, A, c, rfl, ok, k0, k1, k2, hno⟩ := trod_msg h2
        obtain ⟨hs, hbl, _, hc⟩ := cells_at h1 (by omega)
        rw [add_block] at hbl hc
        refine ⟨p, fun _ => ⟨hs, hbl, hc 0 _ rfl, hc 1 _ rfl, hc 2 _ rfl, k0, k1, k2, lcells ok fun j v hj => ?_, A, c, hc 11 _ rfl, hno⟩⟩
        rw [Nat.add_assoc, Nat.add_comm 3 j]
        refine hc (j + 3) v ?_
        show (p.L.vs ++ _)[j]? = _
        rw [List.getElem?_append_left (List.getElem?_eq_some_iff.1 hj).1]
        exact hj
      · exact ⟨⟨⟨#[]⟩, ⟨#[]⟩, ⟨#[]⟩, ⟨false, ⟨#[]⟩, ⟨#[]⟩, 0, 0, 0, ⟨#[]⟩, ⟨#[]⟩⟩, 0, fun _ => ⟨#[]⟩, fun _ => ⟨false, ⟨#[]⟩, ⟨#[]⟩, 0, 0, 0, ⟨#[]⟩, ⟨#[]⟩⟩⟩, fun h => absurd h him⟩
    obtain ⟨f, hf⟩ := Classical.axiomOfChoice hall
    refine ⟨f, fun hn => ?_, hl, by omega⟩
    obtain ⟨b, o, spot⟩ := a
    have hs : spot = none := by simpa [Addr.add] using (hf 0 (by omega)).1
    subst hs
    refine ⟨b, o, rfl, (hf 0 (by omega)).2.1, fun j hj => ?_⟩
    have := (hf j (by omega)).2.2
    rw [add_flat] at this
    exact this
end
end Go.Proofs.Ytippmlajjkdblaa
