/- The plain laws of the singletons. -/
import Derived.Test.YtfkchhmjfnkjbaaFmtVr
namespace Go.Proofs.YtfkchhmjfnkjbaaFmt
open Go.Maps
set_option linter.unusedVariables false
set_option linter.unusedSimpArgs false
theorem mem_insE {x e : Ky × Bool} : ∀ {es : En}, e ∈ insE x es ↔ e = x ∨ e ∈ es
  | [] => by simp [insE]
  | y :: r => by
    have e1 : insE x (y :: r) = (if bytesBefore x.1 y.1 = true then x :: y :: r else y :: insE x r) := rfl
    rw [e1]
    split
    · simp
    · rw [List.mem_cons, List.mem_cons, mem_insE (es := r)]
      constructor
      · rintro (h | h | h)
        · exact Or.inr (Or.inl h)
        · exact Or.inl h
        · exact Or.inr (Or.inr h)
      · rintro (h | h | h)
        · exact Or.inr (Or.inl h)
        · exact Or.inl h
        · exact Or.inr (Or.inr h)
theorem mem_putE {es : En} {k : Ky} {v : Bool} {e : Ky × Bool} : e ∈ putE es k v ↔ e = (k, v) ∨ (e ∈ es ∧ e.1 ≠ k) := by
  unfold putE
  rw [mem_insE, List.mem_filter]
  simp
theorem key_mkE (f : Nat → ByteArray) (g : Nat → Bool) (K : Ky) : ∀ n, (∃ v, (K, v) ∈ mkE f g n) ↔ ∃ j, j < n ∧ (f j).data.toList = K
  | 0 => by simp [mkE]
  | n + 1 => by
    have ih := key_mkE f g K n
    show (∃ v, (K, v) ∈ putE (mkE f g n) (f n).data.toList (g n)) ↔ _
    constructor
    · rintro ⟨v, hv⟩
      rw [mem_putE] at hv
      rcases hv with hv | ⟨hv, hne⟩
      · exact ⟨n, by omega, (congrArg Prod.fst hv).symm⟩
      · obtain ⟨j, hj, e⟩ := ih.1 ⟨v, hv⟩
        exact ⟨j, by omega, e⟩
    · rintro ⟨j, hj, e⟩
      by_cases hK : K = (f n).data.toList
      · exact ⟨g n, mem_putE.2 (Or.inl (by rw [hK]))⟩
      · have hjn : j < n := by
          rcases Nat.lt_or_ge j n with h | h
          · exact h
          · obtain rfl : j = n := by omega
            exact absurd e.symm hK
        obtain ⟨v, hv⟩ := ih.2 ⟨j, hjn, e⟩
        exact ⟨v, mem_putE.2 (Or.inr ⟨hv, hK⟩)⟩
theorem has_mem (es : En) (k : Ky) : has (dm es) (.string k) = true ↔ ∃ v, (k, v) ∈ es := by
  rw [has_dm, List.any_eq_true]
  constructor
  · rintro ⟨e, he, hk⟩
    have hk' : e.1 = k := by simpa using hk
    exact ⟨e.2, by rw [← hk']; exact he⟩
  · rintro ⟨v, hv⟩
    exact ⟨_, hv, by simp⟩
/-- The keys that are done, all with the value true. -/
structure Done (f : Nat → ByteArray) (i : Nat) (dE : En) : Prop where
  keys : ∀ k, has (dm dE) (.string k) = true ↔ ∃ j, j < i ∧ (f j).data.toList = k
  vals : ∀ e ∈ dE, e.2 = true
theorem Done.nil (f : Nat → ByteArray) : Done f 0 [] := ⟨fun k => by rw [has_mem]; simp, fun e h => by cases h⟩
theorem Done.skip {f : Nat → ByteArray} {i : Nat} {dE : En} (h : Done f i dE) (hk : has (dm dE) (.string (f i).data.toList) = true) : Done f (i + 1) dE := by
  refine ⟨fun k => ?_, h.vals⟩
  rw [h.keys]
  constructor
  · rintro ⟨j, hj, e⟩
    exact ⟨j, by omega, e⟩
  · rintro ⟨j, hj, e⟩
    rcases Nat.lt_or_ge j i with hl | hl
    · exact ⟨j, hl, e⟩
    · obtain rfl : j = i := by omega
      obtain ⟨j', h1, h2⟩ := (h.keys _).1 hk
      exact ⟨j', h1, h2.trans e⟩
theorem Done.put {f : Nat → ByteArray} {i : Nat} {dE : En} (h : Done f i dE) : Done f (i + 1) (putE dE (f i).data.toList true) := by
  refine ⟨fun k => ?_, fun e he => ?_⟩
  · rw [has_mem]
    constructor
    · rintro ⟨v, hv⟩
      rw [mem_putE] at hv
      rcases hv with hv | ⟨hv, _⟩
      · exact ⟨i, by omega, (congrArg Prod.fst hv).symm⟩
      · obtain ⟨j, hj, e⟩ := (h.keys k).1 ((has_mem _ _).2 ⟨v, hv⟩)
        exact ⟨j, by omega, e⟩
    · rintro ⟨j, hj, e⟩
      by_cases hK : k = (f i).data.toList
      · exact ⟨true, mem_putE.2 (Or.inl (by rw [hK]))⟩
      · have hji : j < i := by
          rcases Nat.lt_or_ge j i with hl | hl
          · exact hl
          · obtain rfl : j = i := by omega
            exact absurd e.symm hK
        obtain ⟨v, hv⟩ := (has_mem _ _).1 ((h.keys k).2 ⟨j, hji, e⟩)
        exact ⟨v, mem_putE.2 (Or.inr ⟨hv, hK⟩)⟩
  · rcases mem_putE.1 he with e1 | ⟨e1, _⟩
    · rw [e1]
    · exact h.vals _ e1
theorem has_putE (dE : En) (k q : Ky) : has (dm (putE dE k true)) (.string q) = (has (dm dE) (.string q) || (q == k)) := by
  rw [Bool.eq_iff_iff, Bool.or_eq_true, has_mem, has_mem]
  constructor
  · rintro ⟨v, hv⟩
    rcases mem_putE.1 hv with e | ⟨e, _⟩
    · right
      have e1 : q = k := congrArg Prod.fst e
      rw [e1]; simp
    · exact Or.inl ⟨v, e⟩
  · rintro (⟨v, hv⟩ | h)
    · by_cases hq : q = k
      · exact ⟨true, mem_putE.2 (Or.inl (by rw [hq]))⟩
      · exact ⟨v, mem_putE.2 (Or.inr ⟨hv, hq⟩)⟩
    · have : q = k := by simpa using h
      exact ⟨true, mem_putE.2 (Or.inl (by rw [this]))⟩
def lft (dE : En) (z : Lit) : Bool := !has (dm dE) z
theorem dn_lft_nil (es : En) : dn (lft []) es = [] := by
  unfold dn
  rw [List.filter_eq_nil_iff]
  intro e _
  have : has (dm ([] : En)) (.string e.1) = false := rfl
  simp [lft, this]
theorem dn_lft_all {f : Nat → ByteArray} {g : Nat → Bool} {n : Nat} {dE : En} (h : Done f n dE) : dn (lft dE) (mkE f g n) = mkE f g n := by
  unfold dn
  rw [List.filter_eq_self]
  intro e he
  have := (h.keys e.1).2 ((key_mkE f g e.1 n).1 ⟨e.2, he⟩)
  simp [lft, this]
theorem dn_lft_put {es dE : En} (hd : Dst es) {k : Ky} {v : Bool} (hn : has (dm dE) (.string k) = false) (hm : (k, v) ∈ es) : (dn (lft (putE dE k true)) es).Perm ((k, v) :: dn (lft dE) es) := by
  have e : dn (lft (putE dE k true)) es = dn (fun z => lft dE z && !z.sameKey (.string k)) es := by
    unfold dn
    apply List.filter_congr
    intro e _
    show (!(!has (dm (putE dE k true)) (.string e.1))) = (!((!has (dm dE) (.string e.1)) && !(Lit.string e.1).sameKey (.string k)))
    rw [has_putE]
    show _ = (!((!has (dm dE) (.string e.1)) && !(e.1 == k)))
    cases has (dm dE) (.string e.1) <;> cases (e.1 == k) <;> rfl
  rw [e]
  exact dn_step hd (by simp [lft, hn]) (at_of_mem hd hm)
/-- What a look-up of a bool gives. -/
theorem look_bool {w : World} {b n : Nat} {es : En} (h : w.ownsMap Tryf.prog 9 (plainElem Tryf.prog 4) b n (dm es)) (s : ByteArray) (hs : s.size ≤ maxLen) :
    ∃ x : Bool, (Instr.lookup 27 (.map (some b)) (.string s) false).run Tryf.prog w = .ok (.bool x) w ∧ (dm es).atKey (.string s.data.toList) (.lit (.bool false)) = .lit (.bool x) := by
  obtain ⟨v, ps, hrun, hR⟩ := h.lookup lawS Tryf.underlying27 (show (zeroValue 4).run Tryf.prog w = .ok (.bool false) w by kernel_rfl) (plainElem_bool Tryf.underlying4 false) (Go.WideMaps.keyOf_string_mk Tryf.underlying9 hs)
  obtain ⟨x, rfl, hx⟩ := plainElem_bool_inv Tryf.underlying4 hR
  exact ⟨x, hrun, congrArg Prod.fst hx⟩
theorem done_look {f : Nat → ByteArray} {i : Nat} {dE : En} (h : Done f i dE) {k : Ky} {x : Bool} (ha : (dm dE).atKey (.string k) (.lit (.bool false)) = .lit (.bool x)) (hd : Dst dE) : x = has (dm dE) (.string k) := by
  cases hh : has (dm dE) (.string k)
  · have hn : ∀ v, (k, v) ∉ dE := fun v hv => by
      have := (has_mem dE k).2 ⟨v, hv⟩
      rw [hh] at this
      cases this
    have : (dm dE).atKey (.string k) (.lit (.bool false)) = .lit (.bool false) := by
      unfold dm DataW.atKey
      have hf : (dE.map fun e : Ky × Bool => ((.string e.1, .lit (.bool e.2)) : Lit × DataW Unit)).find? (fun p => p.1.sameKey (.string k)) = none := by
        rw [List.find?_eq_none]
        intro p hp hs
        obtain ⟨e, he, rfl⟩ := List.mem_map.1 hp
        have hk : e.1 = k := by simpa [Lit.sameKey] using hs
        exact hn e.2 (by rw [← hk]; exact he)
      simp only [hf]
    rw [this] at ha
    injection ha with ha
    injection ha with ha
    exact ha.symm
  · obtain ⟨v, hv⟩ := (has_mem dE k).1 hh
    have hv1 : v = true := h.vals _ hv
    rw [at_of_mem hd hv, hv1] at ha
    injection ha with ha
    injection ha with ha
    exact ha.symm
theorem map_look {es : En} {k : Ky} {x : Bool} (ha : (dm es).atKey (.string k) (.lit (.bool false)) = .lit (.bool x)) (hd : Dst es) (hk : ∃ v, (k, v) ∈ es) : (k, x) ∈ es := by
  obtain ⟨v, hv⟩ := hk
  rw [at_of_mem hd hv] at ha
  injection ha with ha
  injection ha with ha
  rw [← ha]
  exact hv
end Go.Proofs.YtfkchhmjfnkjbaaFmt
