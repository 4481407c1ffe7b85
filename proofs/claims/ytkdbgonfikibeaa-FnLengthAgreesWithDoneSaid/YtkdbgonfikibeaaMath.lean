/- Pieces laid end to end, and a buffer that they are copied into (plain lists). -/
import Derived.Test.YtkdbgonfikibeaaMem
import Derived.Laws.CopyOwn
import Derived.Lib.BufferWrite
namespace Go.Proofs.Ytkdbgonfikibeaa
open Go.RowKit
set_option linter.unusedVariables false
set_option linter.unusedSimpArgs false

/-- Byte q of a string. -/
def bt (s : ByteArray) (q : Nat) : Int := ((s.data.toList.getD q 0).toNat : Int)
theorem bt_lt (s : ByteArray) (q : Nat) : 0 ≤ bt s q ∧ bt s q < 256 := by
  unfold bt
  have := (s.data.toList.getD q 0).toNat_lt
  omega
/-- All pieces. -/
def catL (f : Nat → ByteArray) : Nat → List UInt8
  | 0 => []
  | k + 1 => catL f k ++ (f k).data.toList
theorem catL_length (f : Nat → ByteArray) (k : Nat) : (catL f k).length = tot f k := by
  induction k with
  | zero => rfl
  | succ k ih => simp [catL, tot, ih]
def C (f : Nat → ByteArray) (n p : Nat) : Int := (((catL f n).getD p 0).toNat : Int)
theorem C_at (f : Nat → ByteArray) {n i q : Nat} (hi : i < n) (hq : q < (f i).size) : C f n (tot f i + q) = bt (f i) q := by
  unfold C bt
  congr 2
  induction n with
  | zero => omega
  | succ n ih =>
    have hl := catL_length f n
    simp only [catL, List.getD_eq_getElem?_getD]
    by_cases e : i = n
    · subst e
      rw [List.getElem?_append_right (by omega), hl, show tot f i + q - tot f i = q by omega]
    · have h1 := tot_at f (show i < n by omega)
      rw [List.getElem?_append_left (by omega)]
      have := ih (by omega)
      simpa [List.getD_eq_getElem?_getD] using this
theorem piece_of (f : Nat → ByteArray) {n p : Nat} (hp : p < tot f n) : ∃ i q, i < n ∧ q < (f i).size ∧ p = tot f i + q := by
  induction n with
  | zero => simp [tot] at hp
  | succ n ih =>
    by_cases h : p < tot f n
    · obtain ⟨i, q, a, b, c⟩ := ih h
      exact ⟨i, q, by omega, b, c⟩
    · simp only [tot] at hp
      exact ⟨n, p - tot f n, by omega, by omega, by omega⟩

/-- Which pieces went which way. -/
def sel (κ : Nat → Bool) (b : Bool) (k : Nat) : List Nat := (List.range k).filter fun i => κ i == b
theorem sel_succ (κ : Nat → Bool) (b : Bool) (k : Nat) : sel κ b (k + 1) = sel κ b k ++ (if κ k = b then [k] else []) := by
  unfold sel
  rw [List.range_succ, List.filter_append]
  congr 1
  by_cases h : κ k = b <;> simp [h]
theorem mem_sel {κ : Nat → Bool} {b : Bool} {k i : Nat} : i ∈ sel κ b k ↔ i < k ∧ κ i = b := by simp [sel]
theorem sel_length_le (κ : Nat → Bool) (b : Bool) (k : Nat) : (sel κ b k).length ≤ k := by
  have := List.length_filter_le (fun i => κ i == b) (List.range k)
  simpa [sel] using this
def pairs (F G : Nat → Value) (l : List Nat) : List Value := l.flatMap fun i => [F i, G i]
theorem pairs_length (F G : Nat → Value) (l : List Nat) : (pairs F G l).length = l.length * 2 := by
  induction l with
  | nil => rfl
  | cons a l ih => simp only [pairs, List.flatMap_cons, List.length_append, List.length_cons, List.length_nil] at ih ⊢; omega
theorem pairs_append (F G : Nat → Value) (l m : List Nat) : pairs F G (l ++ m) = pairs F G l ++ pairs F G m := by simp [pairs]
theorem pairs_at (F G : Nat → Value) : ∀ (l : List Nat) (t i : Nat), l[t]? = some i → (pairs F G l)[t * 2]? = some (F i) ∧ (pairs F G l)[t * 2 + 1]? = some (G i)
  | [], t, i, h => by simp at h
  | a :: l, 0, i, h => by
    simp at h
    subst h
    simp [pairs]
  | a :: l, t + 1, i, h => by
    have := pairs_at F G l t i (by simpa using h)
    simp only [pairs, List.flatMap_cons] at this ⊢
    rw [show (t + 1) * 2 = t * 2 + 2 by omega]
    simpa using this
theorem pairs_congr {F G F' G' : Nat → Value} {l : List Nat} (h : ∀ i ∈ l, F i = F' i ∧ G i = G' i) : pairs F G l = pairs F' G' l := by
  induction l with
  | nil => rfl
  | cons a l ih =>
    have h0 := h a (by simp)
    have h1 := ih fun i hi => h i (by simp [hi])
    simp only [pairs, List.flatMap_cons] at h1 ⊢
    rw [h0.1, h0.2, h1]

/-- The pieces of D lie in the buffer. -/
def BufOk (f : Nat → ByteArray) (D : List Nat) (buf : Nat → Int) : Prop := ∀ i ∈ D, ∀ q, q < (f i).size → buf (tot f i + q) = bt (f i) q
def over (buf : Nat → Int) (off : Nat) (s : ByteArray) : Nat → Int := fun p => if off ≤ p ∧ p < off + s.size then bt s (p - off) else buf p
theorem BufOk.step {f : Nat → ByteArray} {D : List Nat} {buf : Nat → Int} (h : BufOk f D buf) (i : Nat) : BufOk f (D ++ [i]) (over buf (tot f i) (f i)) := by
  intro j hj q hq
  unfold over
  by_cases e : j = i
  · subst e
    rw [if_pos (by omega), show tot f j + q - tot f j = q by omega]
  · have hjD : j ∈ D := by simpa [e] using hj
    rw [if_neg, h j hjD q hq]
    rintro ⟨a, b⟩
    rcases Nat.lt_or_gt_of_ne e with hlt | hlt
    · have := tot_at f hlt; omega
    · have := tot_at f hlt; omega
theorem BufOk.full {f : Nat → ByteArray} {D : List Nat} {buf : Nat → Int} {n : Nat} (h : BufOk f D buf) (hD : ∀ i, i < n → i ∈ D) {p : Nat} (hp : p < tot f n) : buf p = C f n p := by
  obtain ⟨i, q, hi, hq, rfl⟩ := piece_of f hp
  rw [h i (hD i hi) q hq, C_at f hi hq]
theorem sel_cover (κ : Nat → Bool) (n i : Nat) (hi : i < n) : i ∈ sel κ false n ++ sel κ true n := by
  rw [List.mem_append, mem_sel, mem_sel]
  cases h : κ i
  · exact .inl ⟨hi, rfl⟩
  · exact .inr ⟨hi, rfl⟩
/-- One piece alone, gone as bytes. -/
theorem alone {κ : Nat → Bool} {n : Nat} (h1 : (sel κ false n).length = 0) (h2 : (sel κ true n).length = 1) : n = 1 ∧ sel κ true n = [0] := by
  have hb : ∀ i, i < n → κ i = true := fun i hi => by
    cases h : κ i
    · have : i ∈ sel κ false n := mem_sel.2 ⟨hi, h⟩
      rw [List.eq_nil_of_length_eq_zero h1] at this
      simp at this
    · rfl
  have hall : sel κ true n = List.range n := by
    unfold sel
    rw [List.filter_eq_self]
    intro i hi
    simp [hb i (by simpa using hi)]
  rw [hall] at h2 ⊢
  simp at h2
  subst h2
  exact ⟨rfl, rfl⟩

/-- A row behind a copy. -/
theorem rowIs_over {w w' : World} {g t N off : Nat} {buf : Nat → Int} {s : ByteArray} {cur : Array Value} (hc : cur.size = N) (hcur : ∀ i, i < N → cur[i]? = some (.int .u8 (buf i))) (hfit : off + s.size ≤ N)
    (hg : w'.heap[g]? = some (.cells (cur.toList.take off ++ Lib.byteCells s.data.toList ++ cur.toList.drop (off + s.size)).toArray t (0, 0))) :
    w'.rowIs g t N (fun p => .int .u8 (over buf off s p)) := by
  have hs : s.data.toList.length = s.size := by simp
  refine ⟨_, hg, ?_, fun i hi => ?_⟩
  · simp [Lib.byteCells]; omega
  · simp only [List.getElem?_toArray]
    unfold over
    have hbl : (Lib.byteCells s.data.toList).length = s.size := by simp [Lib.byteCells]
    by_cases h1 : i < off
    · rw [List.append_assoc, List.getElem?_append_left (by simp; omega), List.getElem?_take_of_lt h1, if_neg (by omega), Array.getElem?_toList, hcur i hi]
    · by_cases h2 : i < off + s.size
      · rw [List.append_assoc, List.getElem?_append_right (by simp; omega), List.getElem?_append_left (by simp [Lib.byteCells]; omega), if_pos (by omega)]
        have hlt : i - (List.take off cur.toList).length = i - off := by simp; omega
        rw [hlt]
        simp only [Lib.byteCells, List.getElem?_map, bt, List.getD_eq_getElem?_getD]
        rw [List.getElem?_eq_getElem (by omega)]
        simp
      · rw [List.getElem?_append_right (by simp [Lib.byteCells]; omega), if_neg (by omega), List.getElem?_drop, Array.getElem?_toList]
        have : off + s.size + (i - (List.take off cur.toList ++ Lib.byteCells s.data.toList).length) = i := by simp [Lib.byteCells]; omega
        rw [this, hcur i hi]
end Go.Proofs.Ytkdbgonfikibeaa
