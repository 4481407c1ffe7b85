/- Bit sets as functions from byte numbers to bytes: which bits are set (plain arithmetic). -/
import Derived.Below
namespace Go.Proofs.Ytdehakheecckeaa

def setb (e : Nat → Nat) (b : Nat) : Nat → Nat := fun i => if i = b / 8 then e i ||| 2 ^ (b % 8) else e i
def Bits (M : Nat → Prop) (e : Nat → Nat) : Prop := ∀ i j, (e i).testBit j = true ↔ (j < 8 ∧ M (8 * i + j))
theorem Bits.lt {M : Nat → Prop} {e : Nat → Nat} (h : Bits M e) (i : Nat) : e i < 256 := by
  have : e i < 2 ^ 8 := Nat.lt_pow_two_of_testBit _ fun j hj => by
    cases ht : (e i).testBit j with
    | false => rfl
    | true => exact absurd ((h i j).1 ht).1 (by omega)
  simpa using this
theorem Bits.zero : Bits (fun _ => False) (fun _ => 0) := fun i j => by simp
theorem Bits.congr {M M' : Nat → Prop} {e : Nat → Nat} (h : Bits M e) (k : ∀ x, M x ↔ M' x) : Bits M' e := fun i j => by rw [h i j, k]
theorem Bits.set {M : Nat → Prop} {e : Nat → Nat} (h : Bits M e) (b : Nat) : Bits (fun x => M x ∨ x = b) (setb e b) := fun i j => by
  unfold setb
  by_cases hi : i = b / 8
  · subst hi
    rw [if_pos rfl, Nat.testBit_or, Bool.or_eq_true, h, Nat.testBit_two_pow]
    simp only [decide_eq_true_eq]
    have e1 : b = 8 * (b / 8) + b % 8 := by omega
    have e2 : b % 8 < 8 := Nat.mod_lt _ (by omega)
    constructor
    · rintro (⟨a, c⟩ | a)
      · exact ⟨a, .inl c⟩
      · exact ⟨by omega, .inr (by omega)⟩
    · rintro ⟨a, c | c⟩
      · exact .inl ⟨a, c⟩
      · exact .inr (by omega)
  · rw [if_neg hi, h]
    constructor
    · rintro ⟨a, c⟩; exact ⟨a, .inl c⟩
    · rintro ⟨a, c | c⟩
      · exact ⟨a, c⟩
      · omega
theorem Bits.ext {M : Nat → Prop} {e e' : Nat → Nat} (h : Bits M e) (h' : Bits M e') : e = e' := funext fun i => Nat.eq_of_testBit_eq fun j => by
  rw [Bool.eq_iff_iff, h, h']
theorem setb_lt {e : Nat → Nat} {b : Nat} (h : ∀ i, e i < 256) (i : Nat) : setb e b i < 256 := by
  unfold setb
  split
  · have h1 : e i < 2 ^ 8 := by simpa using h i
    have h2 : 2 ^ (b % 8) < 2 ^ 8 := Nat.pow_lt_pow_right (by omega) (Nat.mod_lt _ (by omega))
    have := Nat.or_lt_two_pow h1 h2
    simpa using this
  · exact h i

/-- The listed bits below N, of the first k, of those behind i. -/
def Upto (f : Nat → Int) (N k : Nat) (x : Nat) : Prop := ∃ t, t < k ∧ f t = (x : Int) ∧ x < N
def From (f : Nat → Int) (N n k : Nat) (x : Nat) : Prop := ∃ t, k ≤ t ∧ t < n ∧ f t = (x : Int) ∧ x < N
theorem upto_zero (f : Nat → Int) (N x : Nat) : False ↔ Upto f N 0 x := ⟨False.elim, fun ⟨t, h, _⟩ => by omega⟩
theorem upto_succ {f : Nat → Int} {N k b : Nat} (hb : f k = (b : Int)) (hN : b < N) (x : Nat) : Upto f N k x ∨ x = b ↔ Upto f N (k + 1) x := by
  constructor
  · rintro (⟨t, h, r⟩ | rfl)
    · exact ⟨t, by omega, r⟩
    · exact ⟨k, by omega, hb, hN⟩
  · rintro ⟨t, h, e, r⟩
    by_cases ht : t = k
    · subst ht; right; rw [hb] at e; omega
    · exact .inl ⟨t, by omega, e, r⟩
theorem upto_skip {f : Nat → Int} {N k : Nat} (hb : (N : Int) ≤ f k) (x : Nat) : Upto f N k x ↔ Upto f N (k + 1) x := by
  constructor
  · rintro ⟨t, h, r⟩; exact ⟨t, by omega, r⟩
  · rintro ⟨t, h, e, r⟩
    by_cases ht : t = k
    · subst ht; omega
    · exact ⟨t, by omega, e, r⟩
theorem upto_again {f : Nat → Int} {N k n b : Nat} (hk : k < n) (hb : f k = (b : Int)) (hN : b < N) (x : Nat) : Upto f N n x ∨ x = b ↔ Upto f N n x := by
  constructor
  · rintro (h | rfl)
    · exact h
    · exact ⟨k, hk, hb, hN⟩
  · exact .inl
theorem from_end (f : Nat → Int) (N n x : Nat) : False ↔ From f N n n x := ⟨False.elim, fun ⟨t, h, h', _⟩ => by omega⟩
theorem from_zero (f : Nat → Int) (N n x : Nat) : From f N n 0 x ↔ Upto f N n x := ⟨fun ⟨t, _, r⟩ => ⟨t, r⟩, fun ⟨t, r⟩ => ⟨t, by omega, r⟩⟩
theorem from_succ {f : Nat → Int} {N n k b : Nat} (hk : k < n) (hb : f k = (b : Int)) (hN : b < N) (x : Nat) : From f N n (k + 1) x ∨ x = b ↔ From f N n k x := by
  constructor
  · rintro (⟨t, h, r⟩ | rfl)
    · exact ⟨t, by omega, r⟩
    · exact ⟨k, by omega, hk, hb, hN⟩
  · rintro ⟨t, h, h', e, r⟩
    by_cases ht : t = k
    · subst ht; right; rw [hb] at e; omega
    · exact .inl ⟨t, by omega, h', e, r⟩
theorem from_skip {f : Nat → Int} {N n k : Nat} (hb : (N : Int) ≤ f k) (x : Nat) : From f N n (k + 1) x ↔ From f N n k x := by
  constructor
  · rintro ⟨t, h, r⟩; exact ⟨t, by omega, r⟩
  · rintro ⟨t, h, h', e, r⟩
    by_cases ht : t = k
    · subst ht; omega
    · exact ⟨t, by omega, h', e, r⟩
end Go.Proofs.Ytdehakheecckeaa
