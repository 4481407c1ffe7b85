/- The plain side of ParseGlobPattern. -/
import Derived.Test.YthkfaohmkncgeaaWalks
import Derived.Lib.IndexLaws
namespace Go.Proofs.Ythkfaohmkncgeaa
open Go.RowKit
set_option linter.unusedVariables false

/-- A path's end: nothing, '/' or '\'. -/
def edge (x : Option UInt8) : Bool := x == none || x == some 47 || x == some 92
def wild (pre : List UInt8) (c : Nat) (rest : List UInt8) : Int := if (decide (1 < c) && edge pre.getLast? && edge rest.head?) = true then 2 else 1

inductive Parses : List UInt8 → List (ByteArray × Int) → Prop
  | last (a : ByteArray) (h : 42 ∉ a.data.toList) : Parses a.data.toList [(a, 0)]
  | star (p : ByteArray) (c : Nat) (rest : List UInt8) (ps : List (ByteArray × Int)) (hp : 42 ∉ p.data.toList) (hc : 0 < c) (hr : rest.head? ≠ some 42) (h : Parses rest ps) :
      Parses (p.data.toList ++ (List.replicate c 42 ++ rest)) ((p, wild p.data.toList c rest) :: ps)

theorem take_pre {p x : List UInt8} (h : 42 ∉ p) : (p ++ 42 :: x).takeWhile (· != 42) = p ∧ (p ++ 42 :: x).dropWhile (· != 42) = 42 :: x := by
  induction p with
  | nil => simp
  | cons a p ih =>
    have ha : a ≠ 42 := fun e => h (by simp [e])
    have := ih (fun e => h (by simp [e]))
    simp [ha, this]
theorem take_no {p : List UInt8} (h : 42 ∉ p) : p.dropWhile (· != 42) = [] := by
  induction p with
  | nil => rfl
  | cons a p ih =>
    have ha : a ≠ 42 := fun e => h (by simp [e])
    simp [ha, ih (fun e => h (by simp [e]))]
theorem run_eq {c d : Nat} {x y : List UInt8} (hx : x.head? ≠ some 42) (hy : y.head? ≠ some 42) (h : List.replicate c 42 ++ x = List.replicate d 42 ++ y) : c = d ∧ x = y := by
  induction c generalizing d with
  | zero =>
    cases d with
    | zero => exact ⟨rfl, by simpa using h⟩
    | succ d => exact absurd (by rw [show x = List.replicate (d + 1) 42 ++ y by simpa using h]; rfl) hx
  | succ c ih =>
    cases d with
    | zero => exact absurd (by rw [show y = List.replicate (c + 1) 42 ++ x by simpa using h.symm]; rfl) hy
    | succ d =>
      simp only [List.replicate_succ, List.cons_append, List.cons.injEq, true_and] at h
      obtain ⟨e1, e2⟩ := ih h
      exact ⟨by omega, e2⟩
theorem part_eq {p q x y : List UInt8} {c d : Nat} (hp : 42 ∉ p) (hq : 42 ∉ q) (hc : 0 < c) (hd : 0 < d) (hx : x.head? ≠ some 42) (hy : y.head? ≠ some 42)
    (h : p ++ (List.replicate c 42 ++ x) = q ++ (List.replicate d 42 ++ y)) : p = q ∧ c = d ∧ x = y := by
  obtain ⟨c, rfl⟩ : ∃ k, c = k + 1 := ⟨c - 1, by omega⟩
  obtain ⟨d, rfl⟩ : ∃ k, d = k + 1 := ⟨d - 1, by omega⟩
  have e1 := take_pre (x := List.replicate c 42 ++ x) hp
  have e2 := take_pre (x := List.replicate d 42 ++ y) hq
  simp only [List.replicate_succ, List.cons_append] at h
  rw [h] at e1
  have e3 := e1.1.symm.trans e2.1
  have e4 := e1.2.symm.trans e2.2
  have := run_eq (c := c + 1) (d := d + 1) hx hy (by simpa [List.replicate_succ] using e4)
  exact ⟨e3, this.1, this.2⟩
theorem part_no {p a x : List UInt8} {c : Nat} (hp : 42 ∉ p) (ha : 42 ∉ a) (hc : 0 < c) : p ++ (List.replicate c 42 ++ x) ≠ a := fun h => by
  apply ha
  rw [← h]
  obtain ⟨c, rfl⟩ : ∃ k, c = k + 1 := ⟨c - 1, by omega⟩
  simp [List.replicate_succ]
theorem bytesEq {a b : ByteArray} (h : a.data.toList = b.data.toList) : a = b := by
  cases a; cases b
  simp at h
  rw [h]
theorem Parses.det {l m : List UInt8} {ps qs : List (ByteArray × Int)} (h : Parses l ps) (g : Parses m qs) (e : l = m) : ps = qs := by
  induction h generalizing m qs with
  | last a ha =>
    cases g with
    | last b hb => rw [bytesEq e]
    | star p c rest ps hp hc hr h => exact absurd e.symm (part_no hp ha hc)
  | star p c rest ps hp hc hr h ih =>
    cases g with
    | last b hb => exact absurd e (part_no hp hb hc)
    | star q d rest' ps' hq hd hr' h' =>
      obtain ⟨e1, rfl, rfl⟩ := part_eq hp hq hc hd hr hr' e
      obtain rfl := bytesEq e1
      rw [ih h' rfl]
def print (ps : List (ByteArray × Int)) : List UInt8 := ps.flatMap fun p => p.1.data.toList ++ stars p.2
theorem wild_or (p : List UInt8) (c : Nat) (r : List UInt8) : (wild p c r = 1 ∧ stars (wild p c r) = List.replicate 1 42) ∨ (wild p c r = 2 ∧ 1 < c ∧ stars (wild p c r) = List.replicate 2 42) := by
  unfold wild
  split
  · rename_i h
    simp at h
    exact .inr ⟨rfl, h.1.1, rfl⟩
  · exact .inl ⟨rfl, rfl⟩
theorem head_append (a b : List UInt8) : (a ++ b).head? = if a = [] then b.head? else a.head? := by cases a <;> simp
theorem Parses.again {l : List UInt8} {ps : List (ByteArray × Int)} (h : Parses l ps) : Parses (print ps) ps ∧ (print ps).head? = l.head? := by
  induction h with
  | last a ha =>
    have : print [(a, 0)] = a.data.toList := by simp [print, stars]
    rw [this]
    exact ⟨.last a ha, rfl⟩
  | star p c rest ps hp hc hr h ih =>
    have hh : (List.replicate c (42 : UInt8) ++ rest).head? = some 42 := by
      obtain ⟨c, rfl⟩ : ∃ k, c = k + 1 := ⟨c - 1, by omega⟩
      rfl
    have e : print ((p, wild p.data.toList c rest) :: ps) = p.data.toList ++ (stars (wild p.data.toList c rest) ++ print ps) := by simp [print]
    have hr' : (print ps).head? ≠ some 42 := by rw [ih.2]; exact hr
    rw [e]
    rcases wild_or p.data.toList c rest with ⟨w1, w2⟩ | ⟨w1, wc, w2⟩
    · rw [w2]
      refine ⟨?_, ?_⟩
      · have := Parses.star p 1 (print ps) ps hp (by omega) hr' ih.1
        rw [show wild p.data.toList 1 (print ps) = 1 by simp [wild]] at this
        rw [w1]
        exact this
      · rw [head_append, head_append p.data.toList, hh]
        rfl
    · rw [w2]
      refine ⟨?_, ?_⟩
      · have := Parses.star p 2 (print ps) ps hp (by omega) hr' ih.1
        have e2 : wild p.data.toList 2 (print ps) = 2 := by
          unfold wild at w1 ⊢
          rw [ih.2]
          split at w1
          · rename_i h
            simp at h
            simp [h.2, h.1.2]
          · omega
        rw [e2] at this
        rw [w1]
        exact this
      · rw [head_append, head_append p.data.toList, hh]
        rfl
def sizes (ps : List (ByteArray × Int)) : Nat := (ps.map fun p => p.1.size).sum
theorem size_list (a : ByteArray) : a.data.toList.length = a.size := Array.length_toList
theorem Parses.bounds {l : List UInt8} {ps : List (ByteArray × Int)} (h : Parses l ps) : ps.length ≤ l.length + 1 ∧ sizes ps ≤ l.length ∧ (print ps).length ≤ l.length := by
  induction h with
  | last a ha => simp [sizes, print, stars]
  | star p c rest ps hp hc hr h ih =>
    obtain ⟨h1, h2, h3⟩ := ih
    have e1 : sizes ((p, wild p.data.toList c rest) :: ps) = p.size + sizes ps := by simp [sizes]
    have e2 : print ((p, wild p.data.toList c rest) :: ps) = p.data.toList ++ (stars (wild p.data.toList c rest) ++ print ps) := by simp [print]
    rw [e1, e2]
    have hs : (stars (wild p.data.toList c rest)).length ≤ c := by
      rcases wild_or p.data.toList c rest with ⟨w1, w2⟩ | ⟨w1, wc, w2⟩ <;> rw [w2, List.length_replicate] <;> omega
    simp only [List.length_append, List.length_replicate, List.length_cons, size_list]
    omega
/-- As functions of the index. -/
def preOf (ps : List (ByteArray × Int)) (i : Nat) : ByteArray := (ps.getD i (⟨#[]⟩, 0)).1
def wcOf (ps : List (ByteArray × Int)) (i : Nat) : Int := (ps.getD i (⟨#[]⟩, 0)).2
theorem tot_of (ps : List (ByteArray × Int)) (n : Nat) (hn : n ≤ ps.length) : tot (preOf ps) n = sizes (ps.take n) := by
  induction n with
  | zero => rfl
  | succ n ih =>
    have h1 := ih (by omega)
    rw [List.take_succ_eq_append_getElem (by omega)]
    simp only [tot, h1, sizes, List.map_append, List.sum_append, List.map_cons, List.map_nil, List.sum_cons, List.sum_nil]
    simp [preOf, List.getD_eq_getElem?_getD, show n < ps.length by omega]
theorem print_append (a b : List (ByteArray × Int)) : print (a ++ b) = print a ++ print b := by simp [print]
theorem gl_of (ps : List (ByteArray × Int)) (n : Nat) (hn : n ≤ ps.length) : gl (preOf ps) (wcOf ps) n = print (ps.take n) := by
  induction n with
  | zero => rfl
  | succ n ih =>
    rw [gl_succ, ih (by omega), List.take_succ_eq_append_getElem (by omega), print_append]
    refine congrArg _ ?_
    simp [print, part, preOf, wcOf, List.getD_eq_getElem?_getD, show n < ps.length by omega]
/-- The cells of a list of parts. -/
def pcells (ps : List (ByteArray × Int)) : List Value := ps.flatMap fun p => [.string p.1, .int .u8 p.2]
theorem pcells_len (ps : List (ByteArray × Int)) : (pcells ps).length = ps.length * 2 := by
  induction ps with
  | nil => rfl
  | cons a l ih => simp only [pcells, List.flatMap_cons, List.length_append, List.length_cons, List.length_nil] at ih ⊢; omega
theorem pcells_at (ps : List (ByteArray × Int)) (i : Nat) (hi : i < ps.length) : (pcells ps)[i * 2]? = some (.string (preOf ps i)) ∧ (pcells ps)[i * 2 + 1]? = some (.int .u8 (wcOf ps i)) := by
  induction ps generalizing i with
  | nil => simp at hi
  | cons a l ih =>
    cases i with
    | zero => simp [pcells, preOf, wcOf]
    | succ i =>
      have := ih i (by simpa using hi)
      rw [show (i + 1) * 2 = i * 2 + 1 + 1 by omega, show i * 2 + 1 + 1 + 1 = i * 2 + 1 + 1 + 1 by omega]
      simpa [pcells, preOf, wcOf] using this
theorem own_parts {w : World} {base : Nat} {v : Value} {ps : List (ByteArray × Int)} (h : w.ownsRow base 35 2 v ps.length (pcells ps)) : ∃ A c, v = .slice A ps.length c ∧ RowP w w.heap.size A ps.length (preOf ps) (wcOf ps) := by
  rcases h.2 with ⟨rfl, h0⟩ | ⟨g, cap, cur, rfl, hb, hh, _⟩
  · exact ⟨none, 0, by rw [h0], fun h => absurd h (by omega)⟩
  · refine ⟨_, cap, rfl, fun hp => ⟨g, 0, rfl, blk_lt hh, fun j hj => ?_⟩⟩
    have h1 := h.cells (g := g) rfl (j * 2) _ (pcells_at ps j hj).1
    have h2 := h.cells (g := g) rfl (j * 2 + 1) _ (pcells_at ps j hj).2
    rw [add_flat] at h1 h2
    exact ⟨h1, h2⟩
/-- What one round takes off. -/
theorem split_at {l : List UInt8} {o c : Nat} (ho : ∀ k, k < o → l[k]? ≠ some 42) (hl : o + c ≤ l.length) (hc : ∀ k, k < c → l[o + k]? = some 42) :
    l = l.take o ++ (List.replicate c 42 ++ l.drop (o + c)) ∧ 42 ∉ l.take o := by
  refine ⟨?_, ?_⟩
  · have e : (l.drop o).take c = List.replicate c 42 := by
      refine List.ext_getElem (by simp; omega) fun i h1 h2 => ?_
      simp only [List.length_replicate] at h2
      have := hc i h2
      rw [List.getElem?_eq_getElem (by omega)] at this
      injection this with this
      simp [this]
    rw [← e, show l.drop (o + c) = (l.drop o).drop c by simp, List.take_append_drop, List.take_append_drop]
  · intro hm
    obtain ⟨k, hk, e⟩ := List.getElem_of_mem hm
    simp only [List.length_take] at hk
    refine ho k (by omega) ?_
    rw [List.getElem?_eq_getElem (by omega)]
    simp at e
    rw [e]
theorem last_take {l : List UInt8} {o : Nat} (ho : o ≤ l.length) : (l.take o).getLast? = if o = 0 then none else l[o - 1]? := by
  split
  · rename_i h; subst h; simp
  · rename_i h
    rw [List.getLast?_eq_getElem?, List.length_take, show min o l.length = o by omega, List.getElem?_take, if_pos (by omega)]
theorem head_drop (l : List UInt8) (n : Nat) : (l.drop n).head? = l[n]? := by simp
end Go.Proofs.Ythkfaohmkncgeaa
