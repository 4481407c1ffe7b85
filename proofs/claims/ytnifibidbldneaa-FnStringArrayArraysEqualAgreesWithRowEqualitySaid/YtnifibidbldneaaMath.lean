/- Decimal digits and the length-prefixed encoding (plain lists). -/
import Derived.Test.YtnifibidbldneaaMem
import Derived.Lib.AppendStr
import Derived.Lib.Strings
namespace Go.Proofs.Ytnifibidbldneaa
open Go.RowKit
set_option linter.unusedVariables false
set_option linter.unusedSimpArgs false

def digs (n : Nat) : List Nat := if h : n = 0 then [] else digs (n / 10) ++ [48 + n % 10]
termination_by n
decreasing_by omega
theorem digs_zero : digs 0 = [] := by unfold digs; simp
theorem digs_pos {n : Nat} (h : 0 < n) : digs n = digs (n / 10) ++ [48 + n % 10] := by
  conv => lhs; unfold digs
  rw [dif_neg (by omega)]
theorem digs_mem (n : Nat) : ∀ d ∈ digs n, 48 ≤ d ∧ d ≤ 57 := by
  induction n using Nat.strongRecOn with
  | ind n ih =>
    intro d hd
    rcases Nat.eq_zero_or_pos n with h | h
    · subst h; rw [digs_zero] at hd; simp at hd
    · rw [digs_pos h, List.mem_append] at hd
      rcases hd with hd | hd
      · exact ih (n / 10) (by omega) d hd
      · simp at hd; omega
def val (l : List Nat) : Nat := l.foldl (fun a d => 10 * a + (d - 48)) 0
theorem val_digs (n : Nat) : val (digs n) = n := by
  induction n using Nat.strongRecOn with
  | ind n ih =>
    rcases Nat.eq_zero_or_pos n with h | h
    · subst h; rw [digs_zero]; rfl
    · have := ih (n / 10) (by omega)
      rw [digs_pos h]
      unfold val at this ⊢
      rw [List.foldl_append, this]
      simp only [List.foldl_cons, List.foldl_nil]
      omega
theorem digs_len {n k : Nat} (h : n < 10 ^ k) : (digs n).length ≤ k := by
  induction k generalizing n with
  | zero =>
    obtain rfl : n = 0 := by simp at h; exact h
    rw [digs_zero]; exact Nat.le_refl _
  | succ k ih =>
    rcases Nat.eq_zero_or_pos n with h0 | h0
    · subst h0; rw [digs_zero]; exact Nat.zero_le _
    · rw [digs_pos h0, List.length_append]
      have : n / 10 < 10 ^ k := by
        rw [Nat.pow_succ] at h
        exact Nat.div_lt_of_lt_mul (by omega)
      have := ih this
      simp; omega
theorem digs_ne {n : Nat} (h : 0 < n) : digs n ≠ [] := by rw [digs_pos h]; simp
/-- The decimal text of a number. -/
def itoaL (n : Nat) : List Nat := if n = 0 then [48] else digs n
theorem itoaL_mem (n : Nat) : ∀ d ∈ itoaL n, 48 ≤ d ∧ d ≤ 57 := by
  unfold itoaL
  split
  · intro d hd; simp at hd; omega
  · exact digs_mem n
theorem itoaL_inj {a b : Nat} (h : itoaL a = itoaL b) : a = b := by
  have hv : ∀ n, val (itoaL n) = n := fun n => by
    unfold itoaL
    split
    · next e => subst e; rfl
    · exact val_digs n
  rw [← hv a, h, hv b]
theorem itoaL_len {n : Nat} (h : n < 10000000) : (itoaL n).length ≤ 7 := by
  unfold itoaL
  split
  · simp
  · exact digs_len (k := 7) (by simpa using h)
def by8 (l : List Nat) : List UInt8 := l.map UInt8.ofNat
theorem by8_inj {l m : List Nat} (hl : ∀ d ∈ l, d < 256) (hm : ∀ d ∈ m, d < 256) (h : by8 l = by8 m) : l = m := by
  induction l generalizing m with
  | nil => cases m with
    | nil => rfl
    | cons a m => simp [by8] at h
  | cons a l ih => cases m with
    | nil => simp [by8] at h
    | cons b m =>
      simp only [by8, List.map_cons, List.cons.injEq] at h
      have ha := hl a (by simp)
      have hb := hm b (by simp)
      have e := congrArg UInt8.toNat h.1
      simp at e
      have : a = b := by omega
      subst this
      rw [ih (fun d hd => hl d (by simp [hd])) (fun d hd => hm d (by simp [hd])) h.2]
def pre8 (n : Nat) : List UInt8 := by8 (itoaL n)
theorem pre8_len {n : Nat} (h : n < 10000000) : (pre8 n).length ≤ 7 := by simpa [pre8, by8] using itoaL_len h
theorem pre8_no (n : Nat) : (58 : UInt8) ∉ pre8 n := by
  intro h
  simp only [pre8, by8, List.mem_map] at h
  obtain ⟨d, hd, e⟩ := h
  have := itoaL_mem n d hd
  have e' := congrArg UInt8.toNat e
  simp at e'
  omega
theorem pre8_inj {a b : Nat} (h : pre8 a = pre8 b) : a = b :=
  itoaL_inj (by8_inj (fun d hd => by have := itoaL_mem a d hd; omega) (fun d hd => by have := itoaL_mem b d hd; omega) h)
/-- The encoding. -/
def enc (f : Nat → ByteArray) : Nat → List UInt8
  | 0 => []
  | k + 1 => enc f k ++ pre8 (f k).size ++ [58] ++ (f k).data.toList
def encFrom : List (List UInt8) → List UInt8
  | [] => []
  | x :: l => pre8 x.length ++ 58 :: (x ++ encFrom l)
theorem encFrom_snoc (l : List (List UInt8)) (x : List UInt8) : encFrom (l ++ [x]) = encFrom l ++ (pre8 x.length ++ 58 :: x) := by
  induction l with
  | nil => simp [encFrom]
  | cons a l ih => simp [encFrom, ih]
theorem enc_eq (f : Nat → ByteArray) (n : Nat) : enc f n = encFrom ((List.range n).map fun i => (f i).data.toList) := by
  induction n with
  | zero => rfl
  | succ n ih =>
    rw [List.range_succ, List.map_append, List.map_cons, List.map_nil, encFrom_snoc, ← ih]
    simp [enc]
theorem split58 {p q : List UInt8} (hp : (58 : UInt8) ∉ p) (hq : (58 : UInt8) ∉ q) {x y : List UInt8} (h : p ++ 58 :: x = q ++ 58 :: y) : p = q ∧ x = y := by
  induction p generalizing q with
  | nil =>
    cases q with
    | nil => simpa using h
    | cons a q =>
      simp at h
      exact absurd (by simp [h.1]) hq
  | cons a p ih =>
    cases q with
    | nil =>
      simp at h
      exact absurd (by simp [h.1]) hp
    | cons b q =>
      simp only [List.cons_append, List.cons.injEq] at h
      obtain ⟨e, h⟩ := h
      have := ih (fun k => hp (by simp [k])) (fun k => hq (by simp [k])) h
      exact ⟨by rw [e, this.1], this.2⟩
theorem encFrom_inj : ∀ {l m : List (List UInt8)}, encFrom l = encFrom m → l = m
  | [], [], _ => rfl
  | [], y :: m, h => by simp [encFrom] at h
  | x :: l, [], h => by simp [encFrom] at h
  | x :: l, y :: m, h => by
    simp only [encFrom] at h
    obtain ⟨h1, h2⟩ := split58 (pre8_no _) (pre8_no _) h
    have hl := pre8_inj h1
    obtain ⟨h3, h4⟩ := List.append_inj h2 hl
    rw [h3, encFrom_inj h4]
def sameS (n : Nat) (f : Nat → ByteArray) (m : Nat) (g : Nat → ByteArray) : Bool := decide (n = m ∧ ∀ i, i < n → f i = g i)
theorem bytes_ext {a b : ByteArray} (h : a.data.toList = b.data.toList) : a = b := by
  cases a; cases b
  simp at h
  rw [h]
theorem enc_same (n : Nat) (f : Nat → ByteArray) (m : Nat) (g : Nat → ByteArray) : (enc f n == enc g m) = sameS n f m g := by
  rw [Bool.eq_iff_iff, beq_iff_eq, enc_eq, enc_eq]
  unfold sameS
  rw [decide_eq_true_eq]
  constructor
  · intro h
    have h := encFrom_inj h
    have hl := congrArg List.length h
    simp at hl
    subst hl
    refine ⟨rfl, fun i hi => bytes_ext ?_⟩
    have := congrArg (fun l => l[i]?) h
    simpa [hi] using this
  · rintro ⟨rfl, h⟩
    congr 1
    refine List.map_congr_left fun i hi => ?_
    rw [h i (by simpa using hi)]
theorem enc_len {f : Nat → ByteArray} {n : Nat} (h : tot f n ≤ 1048576) : (enc f n).length ≤ 8 * n + tot f n := by
  induction n with
  | zero => simp [enc]
  | succ n ih =>
    have h1 := tot_mono f (show n ≤ n + 1 by omega)
    have h2 := ih (by omega)
    have h3 := tot_at f (show n < n + 1 by omega)
    have h4 := pre8_len (n := (f n).size) (by omega)
    simp only [enc, tot, List.length_append, List.length_cons, List.length_nil, Array.length_toList]
    have h5 : (f n).data.size = (f n).size := rfl
    omega
end Go.Proofs.Ytnifibidbldneaa
