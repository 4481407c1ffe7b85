/- Entries of a map of strings and bools; sums over them, whatever their order. -/
import Derived.Maps.Ext
import Derived.Below
namespace Go.Proofs.YtfkchhmjfnkjbaaFmt
open Go.Maps
set_option linter.unusedVariables false
set_option linter.unusedSimpArgs false
abbrev Ky := List UInt8
abbrev En := List (Ky × Bool)
/-- The entries as a datum. -/
def dm (es : En) : DataW Unit := .map (es.map fun e => (.string e.1, .lit (.bool e.2)))
def insE (x : Ky × Bool) : En → En
  | [] => [x]
  | y :: r => if bytesBefore x.1 y.1 then x :: y :: r else y :: insE x r
def putE (es : En) (k : Ky) (v : Bool) : En := insE (k, v) (es.filter fun p => !(p.1 == k))
theorem dm_insert (k : Ky) (v : Bool) : ∀ es : En, DataW.insert ((.string k, .lit (.bool v)) : Lit × DataW Unit) (es.map fun e => (.string e.1, .lit (.bool e.2))) = (insE (k, v) es).map fun e => (.string e.1, .lit (.bool e.2))
  | [] => rfl
  | y :: r => by
    have ih := dm_insert k v r
    have e1 : DataW.insert ((.string k, .lit (.bool v)) : Lit × DataW Unit) ((y :: r).map fun e => (.string e.1, .lit (.bool e.2))) = (if bytesBefore k y.1 = true then (.string k, .lit (.bool v)) :: (y :: r).map (fun e => (.string e.1, .lit (.bool e.2))) else (.string y.1, .lit (.bool y.2)) :: DataW.insert ((.string k, .lit (.bool v)) : Lit × DataW Unit) (r.map fun e => (.string e.1, .lit (.bool e.2)))) := rfl
    have e2 : insE (k, v) (y :: r) = (if bytesBefore k y.1 = true then (k, v) :: y :: r else y :: insE (k, v) r) := rfl
    rw [e1, e2]
    by_cases h : bytesBefore k y.1 = true
    · rw [if_pos h, if_pos h]
      rfl
    · rw [if_neg h, if_neg h, List.map_cons, ih]
theorem dm_put (es : En) (k : Ky) (v : Bool) : (dm es).put (.string k) (.lit (.bool v)) = dm (putE es k v) := by
  unfold dm putE
  simp only [DataW.put, List.filter_map]
  rw [← dm_insert]
  rfl
/-- No key twice. -/
def Dst (es : En) : Prop := es.Pairwise fun p q => p.1 ≠ q.1
theorem Dst.of_tidy {es : En} (h : Tidy (dm es)) : Dst es := by
  obtain ⟨l, e, hp⟩ := h
  unfold dm at e
  injection e with e
  subst e
  rw [List.pairwise_map] at hp
  exact hp.imp fun {a b} h e => h (by rw [e])
theorem mem_of_at {es : En} {k : Ky} {v : Bool} (hat : ∀ zd, (dm es).atKey (.string k) zd = .lit (.bool v)) : (k, v) ∈ es := by
  have h := hat .nil
  unfold dm DataW.atKey at h
  simp only [List.find?_map] at h
  cases hf : es.find? ((fun p : Lit × DataW Unit => p.1.sameKey (.string k)) ∘ fun e : Ky × Bool => (Lit.string e.1, DataW.lit (.bool e.2))) with
  | none => rw [hf] at h; simp at h
  | some p =>
    rw [hf] at h
    simp at h
    have hm := List.mem_of_find?_eq_some hf
    have hk := List.find?_some hf
    simp [Lit.sameKey] at hk
    obtain ⟨a, b⟩ := p
    simp at h hk
    subst h hk
    exact hm
theorem at_of_mem {es : En} (hd : Dst es) {k : Ky} {v : Bool} (hm : (k, v) ∈ es) (zd : DataW Unit) : (dm es).atKey (.string k) zd = .lit (.bool v) := by
  unfold dm DataW.atKey
  simp only [List.find?_map]
  induction es with
  | nil => cases hm
  | cons x r ih =>
    rw [Dst, List.pairwise_cons] at hd
    simp only [List.find?_cons]
    rcases List.mem_cons.1 hm with e | e
    · subst e
      simp [Lit.sameKey]
    · have := hd.1 _ e
      have h2 : (Lit.string x.1).sameKey (.string k) = false := by simpa [Lit.sameKey] using this
      simp only [Function.comp_apply, h2]
      exact ih hd.2 e
theorem has_dm (es : En) (k : Ky) : has (dm es) (.string k) = es.any fun e => e.1 == k := by
  unfold dm
  rw [has_eq, List.any_map]
  rfl
/-- What is no longer to come. -/
def dn (left : Lit → Bool) (es : En) : En := es.filter fun e => !left (.string e.1)
theorem dn_start (es : En) : dn (has (dm es)) es = [] := by
  unfold dn
  rw [List.filter_eq_nil_iff]
  intro e he
  have : (es.any fun x => x.1 == e.1) = true := List.any_eq_true.2 ⟨e, he, by simp⟩
  rw [has_dm, this]
  decide
theorem dn_end {left : Lit → Bool} (h : ∀ k, left k = false) (es : En) : dn left es = es := by
  unfold dn
  rw [List.filter_eq_self]
  intro e _
  simp [h]
theorem dn_step {left : Lit → Bool} {es : En} (hd : Dst es) {k : Ky} {v : Bool} (hl : left (.string k) = true) (hat : ∀ zd, (dm es).atKey (.string k) zd = .lit (.bool v)) :
    (dn (fun z => left z && !z.sameKey (.string k)) es).Perm ((k, v) :: dn left es) := by
  obtain ⟨l1, l2, rfl⟩ := List.append_of_mem (mem_of_at hat)
  unfold Dst at hd
  rw [List.pairwise_append, List.pairwise_cons] at hd
  obtain ⟨h1, ⟨h2, _⟩, h3⟩ := hd
  have e1 : ∀ e ∈ l1, (!(left (.string e.1) && !(Lit.string e.1).sameKey (.string k))) = (!left (.string e.1)) := fun e he => by
    have hne := h3 e he (k, v) (by simp)
    have : (Lit.string e.1).sameKey (.string k) = false := by simpa [Lit.sameKey] using hne
    simp [this]
  have e2 : ∀ e ∈ l2, (!(left (.string e.1) && !(Lit.string e.1).sameKey (.string k))) = (!left (.string e.1)) := fun e he => by
    have hne := h2 e he
    have : (Lit.string e.1).sameKey (.string k) = false := by simpa [Lit.sameKey] using fun h => hne h.symm
    simp [this]
  unfold dn
  rw [List.filter_append, List.filter_append, List.filter_cons, List.filter_cons, List.filter_congr e1, List.filter_congr e2]
  simp only [hl, Lit.sameKey, beq_self_eq_true, Bool.not_true, Bool.and_false, Bool.not_false, if_true, Bool.false_eq_true, if_false]
  exact List.perm_middle
/-- Sums over the entries: bits, and how many. -/
def orS (f : Ky × Bool → Nat) (es : En) : Nat := es.foldr (fun e a => f e ||| a) 0
def suS (f : Ky × Bool → Nat) (es : En) : Nat := es.foldr (fun e a => f e + a) 0
theorem orS_perm (f : Ky × Bool → Nat) {a b : En} (h : a.Perm b) : orS f a = orS f b := by
  induction h with
  | nil => rfl
  | cons x _ ih => simp only [orS, List.foldr_cons] at ih ⊢; rw [ih]
  | swap x y l => simp only [orS, List.foldr_cons]; rw [← Nat.or_assoc, Nat.or_comm (f y), Nat.or_assoc]
  | trans _ _ h1 h2 => exact h1.trans h2
theorem suS_perm (f : Ky × Bool → Nat) {a b : En} (h : a.Perm b) : suS f a = suS f b := by
  induction h with
  | nil => rfl
  | cons x _ ih => simp only [suS, List.foldr_cons] at ih ⊢; rw [ih]
  | swap x y l => simp only [suS, List.foldr_cons]; omega
  | trans _ _ h1 h2 => exact h1.trans h2
theorem orS_lt (f : Ky × Bool → Nat) (n : Nat) (h : ∀ e, f e < 2 ^ n) : ∀ es, orS f es < 2 ^ n
  | [] => Nat.two_pow_pos n
  | e :: r => Nat.or_lt_two_pow (h e) (orS_lt f n h r)
theorem suS_le (f : Ky × Bool → Nat) (h : ∀ e, f e ≤ 1) : ∀ es, suS f es ≤ es.length
  | [] => Nat.le_refl _
  | e :: r => by
    have := suS_le f h r
    have h1 := h e
    simp only [suS, List.foldr_cons, List.length_cons] at this ⊢
    omega
theorem dn_len (left : Lit → Bool) (es : En) : (dn left es).length ≤ es.length := List.length_filter_le _ _
end Go.Proofs.YtfkchhmjfnkjbaaFmt
