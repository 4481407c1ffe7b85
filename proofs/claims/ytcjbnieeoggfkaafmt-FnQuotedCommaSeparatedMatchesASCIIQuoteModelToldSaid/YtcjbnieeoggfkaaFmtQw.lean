/- The walk of StringArrayToQuotedCommaSeparatedString. -/
import Derived.Test.YtcjbnieeoggfkaaFmtQf
import Derived.Test.YtcjbnieeoggfkaaFmtCommon
import Derived.Test.YtcjbnieeoggfkaaFmtBld
import Derived.Test.YtcjbnieeoggfkaaFmtShelf
import Derived.WalkSpells
namespace Go.Proofs.YtcjbnieeoggfkaaFmt
open Go.RowKit Go.Extern.Stop Go.Stop Go.Extern
set_option linter.unusedVariables false
set_option linter.unusedSimpArgs false

theorem isB_keep {T e B b : Nat} {bs : List Value} {w w' : World} (h : Lib.IsBuilder T e B b bs w) (hb : ∀ g, g < w.heap.size → w'.heap[g]? = w.heap[g]?) : Lib.IsBuilder T e B b bs w' := by
  have at_ : ∀ p, Lib.BuilderAt T e B b p bs w → Lib.BuilderAt T e B b p bs w' := by
    rintro p ⟨h1, v, h2, h3, h4⟩
    refine ⟨h1, v, by rw [hb b (blk_lt h2)]; exact h2, ⟨h3.1, ?_⟩, h4⟩
    rcases h3.2 with h0 | ⟨g, cap, cur, e1, e2, e3, r⟩
    · exact .inl h0
    · exact .inr ⟨g, cap, cur, e1, e2, by rw [hb g (blk_lt e3)]; exact e3, r⟩
  rcases h with h | h
  · exact .inl (at_ _ h)
  · exact .inr (at_ _ h)
theorem byteCells_append (l m : List UInt8) : Lib.byteCells (l ++ m) = Lib.byteCells l ++ Lib.byteCells m := by simp [Lib.byteCells]
def Asc (s : ByteArray) : Prop := ∀ i, i < s.size → s.get! i < 128
theorem quo_len (s : ByteArray) : (quo s).length ≤ 4 * s.size + 2 := by
  have := escs_len s.data.toList
  have hz : s.data.toList.length = s.size := by simp
  simp only [quo, List.length_cons, List.length_append, List.length_nil]
  omega
theorem joinQ_len (f : Nat → ByteArray) (n : Nat) : (joinQ f n).length ≤ 4 * tot f n + 4 * n := by
  induction n with
  | zero => exact Nat.le_refl _
  | succ n ih =>
    have := quo_len (f n)
    simp only [joinQ, List.length_append, tot]
    split <;> simp <;> omega

set_option maxHeartbeats 4000000 in
theorem quotedList (F : Interp) (A : Option Addr) (n c : Nat) (f : Nat → ByteArray) (B : Nat) (w : World) (h : RowF w B A n (fun i => .string (f i))) (hB : B ≤ w.heap.size) (hn : n + tot f n ≤ 1048576) (hs : ∀ i, i < n → Asc (f i)) (hF : F.told.answers w.tape) :
    Calls Tryf.prog 8 #[.slice A n c] w fun e w' => e = .returned (.string ⟨(joinQ f n).toArray⟩) ∧ Below w.heap.size w w' := by
  have H := Lib.hid h
  have HS := Lib.hid hs
  have HF := Lib.hid hF
  clear h hs hF
  go_enter Tryf.func8, Tryf.ntmps8
  go_wp2_with fail
  go_loopg [9] n (fun g z wr => ∃ k : Nat, k ≤ n ∧ g = n - k ∧ z = .int .i64 k ∧ Lib.IsBuilder 30 5 w.heap.size w.heap.size (Lib.byteCells (joinQ f k)) wr ∧ Below w.heap.size w wr)
  case atStart => exact ⟨0, Nat.zero_le _, rfl, rfl, Lib.fresh_isBuilder 30 5 w, (Below.refl _ _).alloc (Nat.le_refl _) _⟩
  case round =>
    obtain ⟨k, hk, rfl, rfl, hB1, hbel⟩ := hrel
    by_cases hlt : k < n
    · obtain ⟨b, o, hAe, hb, hc⟩ := H.out.at_ hlt
      subst hAe
      have hc1 := (hbel.cell (p := ⟨b, o + k, none⟩) (Nat.lt_of_lt_of_le hb hB)).trans hc
      have htk := tot_at f hlt
      have htm := tot_mono f (show k + 1 ≤ n from hlt)
      have hgl := joinQ_len f k
      have hql := quo_len (f k)
      have htp : wr.tape = w.tape := hbel.tape
      have hFr : F.told.answers wr.tape := by rw [htp]; exact HF.out
      have hT := q_told F (f k) (HS.out k hlt) (by simp only [tot] at htm; omega)
      have HIB := Lib.hid hB1
      have HB := Lib.hid hbel
      have hws := hbel.size
      clear hB1 hbel hc htp
      unfold qReading at hT
      by_cases h0 : 0 < k
      · have HG : Hid (joinQ f (k + 1) = joinQ f k ++ [44, 32] ++ quo (f k)) := Lib.hid (by simp only [joinQ]; rw [if_neg (by omega)]; simp)
        go_wp2_with fail
        refine (writeString w.heap.size w.heap.size _ ⟨#[44, 32]⟩ _ HIB.out (by rw [Lib.byteCells_length]; have h2 : (⟨#[44, 32]⟩ : ByteArray).size = 2 := rfl
                                                                                omega) (by omega)).mono ?_
        rintro e w1 ⟨rfl, hba, hb1, hap⟩
        have HBA : Hid (Lib.IsBuilder 30 5 w.heap.size w.heap.size (Lib.byteCells (joinQ f k ++ [44, 32])) w1) := Lib.hid (by rw [byteCells_append]; exact .inr hba)
        have HB1 : Hid (Below w.heap.size w w1) := Lib.hid (HB.out.trans hb1)
        have hw1 := HB1.out.size
        have hF' := answers_open (show F.told.answers w1.tape by rw [HB1.out.tape]; exact HF.out)
        clear hba hb1 hap HIB HB hFr hc1
        go_wp2_with fail
        have hib : Lib.IsBuilder 30 5 w.heap.size w.heap.size (Lib.byteCells (joinQ f k ++ [44, 32])) (w1.alloc (.cells #[.iface 9 (.string (f k))] 20)).drew := isB_keep HBA.out fun g hg => Below.heap_alloc _ _ _ hg
        refine (writeString w.heap.size w.heap.size _ _ _ hib (by
          rw [Lib.byteCells_length, List.length_append]
          have : (⟨(quo (f k)).toArray⟩ : ByteArray).size = (quo (f k)).length := rfl
          have : ([44, 32] : List UInt8).length = 2 := rfl
          omega) (by simp; omega)).mono ?_
        rintro e w2 ⟨rfl, hba, hb2, hap⟩
        have HBA2 : Hid (Lib.IsBuilder 30 5 w.heap.size w.heap.size (Lib.byteCells (joinQ f (k + 1))) w2) := Lib.hid (by rw [HG.out, byteCells_append]; exact .inr hba)
        have HB2 : Hid (Below w.heap.size w w2) := Lib.hid ((Below.drew (HB1.out.alloc hw1 _)).trans hb2)
        clear hba hb2 hap HBA HB1 hib
        go_wp2_with fail
        go_roundg (n - (k + 1))
        case rel => exact ⟨k + 1, by omega, rfl, by go_num, HBA2.out, HB2.out⟩
        case measure => omega
      · have HG : Hid (joinQ f (k + 1) = joinQ f k ++ quo (f k)) := Lib.hid (by simp only [joinQ]; rw [if_pos (by omega)]; simp)
        have hF' := answers_open hFr
        go_wp2_with fail
        have hib : Lib.IsBuilder 30 5 w.heap.size w.heap.size (Lib.byteCells (joinQ f k)) (wr.alloc (.cells #[.iface 9 (.string (f k))] 20)).drew := isB_keep HIB.out fun g hg => Below.heap_alloc _ _ _ hg
        refine (writeString w.heap.size w.heap.size _ _ _ hib (by
          rw [Lib.byteCells_length]
          have : (⟨(quo (f k)).toArray⟩ : ByteArray).size = (quo (f k)).length := rfl
          omega) (by simp; omega)).mono ?_
        rintro e w2 ⟨rfl, hba, hb2, hap⟩
        have HBA2 : Hid (Lib.IsBuilder 30 5 w.heap.size w.heap.size (Lib.byteCells (joinQ f (k + 1))) w2) := Lib.hid (by rw [HG.out, byteCells_append]; exact .inr hba)
        have HB2 : Hid (Below w.heap.size w w2) := Lib.hid ((Below.drew (HB.out.alloc hws _)).trans hb2)
        clear hba hb2 hap hib HIB HB
        go_wp2_with fail
        go_roundg (n - (k + 1))
        case rel => exact ⟨k + 1, by omega, rfl, by go_num, HBA2.out, HB2.out⟩
        case measure => omega
    · have hkn : k = n := by omega
      subst hkn
      have HIB := Lib.hid hB1
      have HB := Lib.hid hbel
      have hws := hbel.size
      clear hB1 hbel
      go_wp2_with fail
      refine (Tryf.Builder_String_any w.heap.size w.heap.size (joinQ f k) _ HIB.out hws).mono ?_
      rintro e w1 ⟨rfl, hb1⟩
      have HB1 := Lib.hid (HB.out.trans hb1)
      clear hb1
      go_wp2_with fail
      go_ret
      exact ⟨rfl, HB1.out⟩
end Go.Proofs.YtcjbnieeoggfkaaFmt
