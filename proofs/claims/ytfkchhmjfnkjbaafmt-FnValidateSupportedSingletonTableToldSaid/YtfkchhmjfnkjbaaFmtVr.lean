/- The plain laws of the flip. -/
import Derived.Test.YtfkchhmjfnkjbaaFmtVn
namespace Go.Proofs.YtfkchhmjfnkjbaaFmt
open Go.Maps
set_option linter.unusedVariables false
set_option linter.unusedSimpArgs false
def mkE (f : Nat → ByteArray) (g : Nat → Bool) : Nat → En
  | 0 => []
  | k + 1 => putE (mkE f g k) (f k).data.toList (g k)
def neg (es : En) : En := es.map fun e => (e.1, !e.2)
theorem neg_insE (k : Ky) (v : Bool) : ∀ es : En, neg (insE (k, v) es) = insE (k, !v) (neg es)
  | [] => rfl
  | y :: r => by
    have ih := neg_insE k v r
    have e1 : insE (k, v) (y :: r) = (if bytesBefore k y.1 = true then (k, v) :: y :: r else y :: insE (k, v) r) := rfl
    have e2 : insE (k, !v) (neg (y :: r)) = (if bytesBefore k y.1 = true then (k, !v) :: neg (y :: r) else (y.1, !y.2) :: insE (k, !v) (neg r)) := rfl
    rw [e1, e2]
    by_cases h : bytesBefore k y.1 = true
    · rw [if_pos h, if_pos h]; rfl
    · rw [if_neg h, if_neg h, ← ih]; rfl
theorem neg_putE (es : En) (k : Ky) (v : Bool) : neg (putE es k v) = putE (neg es) k (!v) := by
  unfold putE
  rw [neg_insE]
  congr 1
  unfold neg
  rw [List.filter_map]
  rfl
theorem neg_mkE (f : Nat → ByteArray) (g : Nat → Bool) : ∀ k, mkE f (fun i => !g i) k = neg (mkE f g k)
  | 0 => rfl
  | k + 1 => by
    show putE (mkE f (fun i => !g i) k) _ _ = neg (putE (mkE f g k) _ _)
    rw [neg_mkE f g k, neg_putE]
theorem insE_len (x : Ky × Bool) : ∀ es : En, (insE x es).length = es.length + 1
  | [] => rfl
  | y :: r => by
    have e1 : insE x (y :: r) = (if bytesBefore x.1 y.1 = true then x :: y :: r else y :: insE x r) := rfl
    rw [e1]
    split
    · rfl
    · simp [insE_len x r]
theorem mkE_len (f : Nat → ByteArray) (g : Nat → Bool) : ∀ k, (mkE f g k).length ≤ k
  | 0 => Nat.le_refl _
  | k + 1 => by
    show (putE (mkE f g k) _ _).length ≤ _
    unfold putE
    rw [insE_len]
    have := mkE_len f g k
    have h2 := List.length_filter_le (fun p : Ky × Bool => !(p.1 == (f k).data.toList)) (mkE f g k)
    omega
/-- The wanted, and the mask. -/
def Fh (h : Ky → Nat) (e : Ky × Bool) : Nat := if e.2 then 0 else h e.1
def Gh (h : Ky → Nat) (e : Ky × Bool) : Nat := h e.1
theorem orS_neg (h : Ky → Nat) : ∀ es, orS (Gh h) (neg es) = orS (Gh h) es
  | [] => rfl
  | e :: r => by
    have ih := orS_neg h r
    show Gh h _ ||| orS (Gh h) (neg r) = Gh h e ||| orS (Gh h) r
    rw [ih]; rfl
theorem orS_flip (h : Ky → Nat) : ∀ es, orS (Fh h) es ||| orS (Fh h) (neg es) = orS (Gh h) es
  | [] => by simp [orS, neg]
  | e :: r => by
    have ih := orS_flip h r
    show (Fh h e ||| orS (Fh h) r) ||| (Fh h (e.1, !e.2) ||| orS (Fh h) (neg r)) = Gh h e ||| orS (Gh h) r
    rw [← ih]
    obtain ⟨k, v⟩ := e
    apply Nat.eq_of_testBit_eq
    intro i
    cases v <;> simp only [Fh, Gh, Nat.testBit_or, Nat.zero_testBit, Bool.false_eq_true, if_true, if_false, Bool.not_true, Bool.not_false, reduceIte] <;> cases (h k).testBit i <;> cases (orS (Fh h) r).testBit i <;> rfl
theorem orS_sub (h : Ky → Nat) : ∀ es, orS (Fh h) es ||| orS (Gh h) es = orS (Gh h) es
  | [] => by simp [orS]
  | e :: r => by
    have ih := orS_sub h r
    show (Fh h e ||| orS (Fh h) r) ||| (Gh h e ||| orS (Gh h) r) = Gh h e ||| orS (Gh h) r
    have hi : ∀ i, ((orS (Fh h) r).testBit i || (orS (Gh h) r).testBit i) = (orS (Gh h) r).testBit i := fun i => by rw [← Nat.testBit_or, ih]
    obtain ⟨k, v⟩ := e
    apply Nat.eq_of_testBit_eq
    intro i
    have hi := hi i
    revert hi
    cases v <;> simp only [Fh, Gh, Nat.testBit_or, Nat.zero_testBit, Bool.false_eq_true, if_true, if_false, Bool.not_true, Bool.not_false, reduceIte] <;> cases (h k).testBit i <;> cases (orS (Fh h) r).testBit i <;> cases (orS (Gh h) r).testBit i <;> decide
theorem sub_mask {a b n : Nat} (hb : b < 2 ^ n) (hs : a ||| b = b) : a &&& (2 ^ n - 1 - b) = 0 := by
  apply Nat.eq_of_testBit_eq
  intro i
  rw [Nat.testBit_and, show 2 ^ n - 1 - b = 2 ^ n - (b + 1) by omega, Nat.testBit_two_pow_sub_succ hb, Nat.zero_testBit]
  have h : (a ||| b).testBit i = b.testBit i := by rw [hs]
  rw [Nat.testBit_or] at h
  cases ha : a.testBit i <;> cases hbb : b.testBit i <;> simp_all
theorem suS_neg (jf cf : Ky → Option Nat) : ∀ es, suS (NFf jf cf) (neg es) = suS (NFf jf cf) es
  | [] => rfl
  | e :: r => by
    have ih := suS_neg jf cf r
    show NFf jf cf _ + suS (NFf jf cf) (neg r) = NFf jf cf e + suS (NFf jf cf) r
    rw [ih]; rfl
def hJ (jf : Ky → Option Nat) (k : Ky) : Nat := (jf k).getD 0
def hC (jf cf : Ky → Option Nat) (k : Ky) : Nat := if (jf k).isSome then 0 else (cf k).getD 0
structure Bnd (jf cf : Ky → Option Nat) : Prop where
  j : ∀ k, (jf k).getD 0 < 18446744073709551616
  c : ∀ k, (cf k).getD 0 < 65536
theorem Bnd.hJ {jf cf : Ky → Option Nat} (h : Bnd jf cf) (k : Ky) : hJ jf k < 2 ^ 64 := h.j k
theorem Bnd.hC {jf cf : Ky → Option Nat} (h : Bnd jf cf) (k : Ky) : hC jf cf k < 2 ^ 16 := by
  unfold Go.Proofs.YtfkchhmjfnkjbaaFmt.hC
  split
  · decide
  · exact h.c k
theorem Sums.lt {jf cf : Ky → Option Nat} {es : En} {a b c d m : Nat} (hB : Bnd jf cf) (h : Sums jf cf es a b c d m) : a < 18446744073709551616 ∧ b < 18446744073709551616 ∧ c < 65536 ∧ d < 65536 := by
  obtain ⟨h1, h2, h3, h4, h5⟩ := h
  subst h1 h2 h3 h4
  refine ⟨orS_lt _ 64 (fun e => ?_) _, orS_lt _ 64 (fun e => hB.j e.1) _, orS_lt _ 16 (fun e => ?_) _, orS_lt _ 16 (fun e => hB.hC e.1) _⟩
  · unfold JFf; split; decide; exact hB.j e.1
  · unfold CFf; split; decide; exact hB.hC e.1
/-- The flip: equal masks, equal counts, the two halves cover the mask. -/
theorem flip {jf cf : Ky → Option Nat} {es : En} {a b c d m a' b' c' d' m' : Nat} (h : Sums jf cf es a b c d m) (h' : Sums jf cf (neg es) a' b' c' d' m') :
    b' = b ∧ d' = d ∧ m' = m ∧ a ||| a' = b ∧ c ||| c' = d ∧ a ||| b = b ∧ c ||| d = d := by
  obtain ⟨h1, h2, h3, h4, h5⟩ := h
  obtain ⟨k1, k2, k3, k4, k5⟩ := h'
  refine ⟨k2.trans ((orS_neg (hJ jf) es).trans h2.symm), k4.trans ((orS_neg (hC jf cf) es).trans h4.symm), k5.trans ((suS_neg jf cf es).trans h5.symm), ?_, ?_, ?_, ?_⟩
  · rw [h1, k1, h2]; exact orS_flip (hJ jf) es
  · rw [h3, k3, h4]; exact orS_flip (hC jf cf) es
  · rw [h1, h2]; exact orS_sub (hJ jf) es
  · rw [h3, h4]; exact orS_sub (hC jf cf) es
/-- One entry. -/
theorem one_sums {jf cf : Ky → Option Nat} {k : Ky} {v : Bool} {a b c d m : Nat} (h : Sums jf cf [(k, v)] a b c d m) :
    a = (if v then 0 else hJ jf k) ∧ b = hJ jf k ∧ c = (if v then 0 else hC jf cf k) ∧ d = hC jf cf k ∧ m = (if (jf k).isSome || (cf k).isSome then 0 else 1) := by
  obtain ⟨h1, h2, h3, h4, h5⟩ := h
  refine ⟨h1.trans ?_, h2.trans ?_, h3.trans ?_, h4.trans ?_, h5.trans ?_⟩ <;> simp [orS, suS, JFf, JMf, CFf, CMf, NFf, hJ, hC]
end Go.Proofs.YtfkchhmjfnkjbaaFmt
