/- GlobPatternToString and the helpers of its law. -/
import Derived.Test.YthkfaohmkncgeaaCommon
import Derived.Test.YthkfaohmkncgeaaShelf
import Derived.Deep.RegionWith
import Derived.Deep.RegionHeld3
namespace Go.Proofs.Ythkfaohmkncgeaa
open Go.RowKit
set_option linter.unusedVariables false
set_option linter.unusedSimpArgs false

theorem Try.info35 : (Try.prog.info? 35).map (fun i => (i.zero, i.size, i.bytes)) = some (some (.agg #[.string ⟨#[]⟩, .int .u8 0]), 2, 24) := by kernel_rfl

/-- A slice of glob parts. -/
def RowP (w : World) (B : Nat) (A : Option Addr) (n : Nat) (pre : Nat → ByteArray) (wc : Nat → Int) : Prop :=
  0 < n → ∃ b o, A = some ⟨b, o, none⟩ ∧ b < B ∧ ∀ j, j < n → w.cell? ⟨b, o + j * 2, none⟩ = some (.string (pre j)) ∧ w.cell? ⟨b, o + j * 2 + 1, none⟩ = some (.int .u8 (wc j))
section
variable {w w' : World} {B B' n : Nat} {A : Option Addr} {pre : Nat → ByteArray} {wc : Nat → Int}
theorem RowP.keep (h : RowP w B A n pre wc) (hk : ∀ p : Addr, p.block < B → w'.cell? p = w.cell? p) : RowP w' B A n pre wc := fun hn => by
  obtain ⟨b, o, e, hb, hc⟩ := h hn
  exact ⟨b, o, e, hb, fun j hj => ⟨(hk _ hb).trans (hc j hj).1, (hk _ hb).trans (hc j hj).2⟩⟩
theorem RowP.below (h : RowP w B A n pre wc) (hb : Below B w w') : RowP w' B A n pre wc := h.keep fun _ hp => hb.cell hp
theorem RowP.more (h : RowP w B A n pre wc) (hB : B ≤ B') : RowP w B' A n pre wc := fun hn => by
  obtain ⟨b, o, e, hb, hc⟩ := h hn
  exact ⟨b, o, e, by omega, hc⟩
theorem RowP.none_ : RowP w B A 0 pre wc := fun h => absurd h (by omega)
theorem RowP.sub {b o i k : Nat} (h : RowP w B (some ⟨b, o, none⟩) n pre wc) (hik : i + k ≤ n) : RowP w B (some ⟨b, o + i * 2, none⟩) k (fun j => pre (i + j)) (fun j => wc (i + j)) := fun hk => by
  obtain ⟨b', o', e, hb, hc⟩ := h (by omega)
  injection e with e
  injection e with e1 e2
  subst e1 e2
  refine ⟨b, o + i * 2, rfl, hb, fun j hj => ?_⟩
  have := hc (i + j) (by omega)
  rw [show o + (i + j) * 2 = o + i * 2 + j * 2 by omega] at this
  exact this
theorem RowP.take {k : Nat} (h : RowP w B A n pre wc) (hk : k ≤ n) : RowP w B A k pre wc := fun hp => by
  obtain ⟨b, o, e, hb, hc⟩ := h (by omega)
  exact ⟨b, o, e, hb, fun j hj => hc j (by omega)⟩
end
def stars (x : Int) : List UInt8 := if x = 1 then [42] else if x = 2 then [42, 42] else []
def part (pre : Nat → ByteArray) (wc : Nat → Int) (i : Nat) : List UInt8 := (pre i).data.toList ++ stars (wc i)
def gl (pre : Nat → ByteArray) (wc : Nat → Int) (n : Nat) : List UInt8 := (List.range n).flatMap (part pre wc)
theorem gl_succ (pre : Nat → ByteArray) (wc : Nat → Int) (n : Nat) : gl pre wc (n + 1) = gl pre wc n ++ part pre wc n := by
  unfold gl; rw [List.range_succ, List.flatMap_append]; simp
theorem gl_add (pre : Nat → ByteArray) (wc : Nat → Int) (a b : Nat) : gl pre wc (a + b) = gl pre wc a ++ gl (fun j => pre (a + j)) (fun j => wc (a + j)) b := by
  unfold gl
  rw [List.range_add, List.flatMap_append, List.flatMap_map]
  rfl
theorem stars_len (x : Int) : (stars x).length ≤ 2 := by unfold stars; split <;> (try split) <;> simp
theorem gl_len (pre : Nat → ByteArray) (wc : Nat → Int) (n : Nat) : (gl pre wc n).length ≤ tot pre n + 2 * n := by
  induction n with
  | zero => simp [gl]
  | succ n ih =>
    have := stars_len (wc n)
    rw [gl_succ, List.length_append]
    simp only [part, List.length_append, Array.length_toList, tot]
    have h5 : (pre n).data.size = (pre n).size := rfl
    omega
def gS (pre : Nat → ByteArray) (wc : Nat → Int) (n : Nat) : ByteArray := ⟨(gl pre wc n).toArray⟩
theorem bytes_ext {a b : ByteArray} (h : a.data.toList = b.data.toList) : a = b := by
  cases a; cases b
  simp at h
  rw [h]

theorem isB_keep {T e B b : Nat} {bs : List Value} {w w' : World} (h : Lib.IsBuilder T e B b bs w) (hb : ∀ g, g < w.heap.size → w'.heap[g]? = w.heap[g]?) : Lib.IsBuilder T e B b bs w' := by
  have at_ : ∀ p, Lib.BuilderAt T e B b p bs w → Lib.BuilderAt T e B b p bs w' := by
    rintro p ⟨h1, v, h2, h3, h4⟩
    refine ⟨h1, v, by rw [hb b (blk_lt h2)]; exact h2, ⟨h3.1, ?_⟩, h4⟩
    rcases h3.2 with h0 | ⟨g, cap, cur, e1, e2, e3, r⟩
    · exact .inl h0
    · exact .inr ⟨g, cap, cur, e1, e2, by rw [hb g (blk_lt e3)]; exact e3, r⟩
  rcases h with h | h
  · exact .inl (at_ _ h)
  · exact .inr (at_ _ h)
theorem strCells_eq (s : ByteArray) : Lib.strCells s = Lib.byteCells s.data.toList := rfl
theorem byteCells_append (l m : List UInt8) : Lib.byteCells (l ++ m) = Lib.byteCells l ++ Lib.byteCells m := by simp [Lib.byteCells]

set_option maxHeartbeats 2000000 in
theorem toStr (A : Option Addr) (n c : Nat) (pre : Nat → ByteArray) (wc : Nat → Int) (B : Nat) (w : World) (h : RowP w B A n pre wc) (hB : B ≤ w.heap.size) (hn : n ≤ 4194304) (ht : tot pre n ≤ 4194304) :
    Calls Try.prog 7 #[.slice A n c] w fun e w' => e = .returned (.string (gS pre wc n)) ∧ Below w.heap.size w w' := by
  have H := Lib.hid h
  clear h
  go_enter Try.func7, Try.ntmps7
  go_wp2_with fail
  go_loopg [9] n (fun g z wr => ∃ k : Nat, k ≤ n ∧ g = n - k ∧ z = .int .i64 k ∧ Lib.IsBuilder 40 5 w.heap.size w.heap.size (Lib.byteCells (gl pre wc k)) wr ∧ Below w.heap.size w wr)
  case atStart => exact ⟨0, Nat.zero_le _, rfl, rfl, Lib.fresh_isBuilder 40 5 w, (Below.refl _ _).alloc (Nat.le_refl _) _⟩
  case round =>
    obtain ⟨k, hk, rfl, rfl, hB1, hbel⟩ := hrel
    by_cases hlt : k < n
    · obtain ⟨b, o, hAe, hb, hc⟩ := H.out (by omega)
      subst hAe
      have hc1 := (hbel.cell (p := ⟨b, o + k * 2, none⟩) (Nat.lt_of_lt_of_le hb hB)).trans (hc k hlt).1
      have hc2 := (hbel.cell (p := ⟨b, o + k * 2 + 1, none⟩) (Nat.lt_of_lt_of_le hb hB)).trans (hc k hlt).2
      have htk := tot_at pre hlt
      have hgl := gl_len pre wc k
      have htm := tot_mono pre hk
      have HIB := Lib.hid hB1
      have HB := Lib.hid hbel
      have hws := hbel.size
      clear hB1 hbel hc
      go_wp2_with fail
      have hib : Lib.IsBuilder 40 5 w.heap.size w.heap.size (Lib.byteCells (gl pre wc k)) (wr.alloc (.cells #[.string (pre k), .int .u8 (wc k)] 35)) := isB_keep HIB.out fun g hg => Below.heap_alloc _ _ _ hg
      refine (writeString w.heap.size w.heap.size (Lib.byteCells (gl pre wc k)) (pre k) _ hib (by rw [Lib.byteCells_length]; omega) (by simp; omega)).mono ?_
      rintro e w1 ⟨rfl, hba, hb1, hap⟩
      have hitem : w1.heap[wr.heap.size]? = some (.cells #[.string (pre k), .int .u8 (wc k)] 35 (0, 0)) := hap wr.heap.size _ 35 (0, 0) (by decide) (by decide) (heap_alloc_new _ _)
      have hci : w1.cell? ⟨wr.heap.size, 1, none⟩ = some (.int .u8 (wc k)) := by rw [Lib.cell_of_heap hitem]; rfl
      have HBA : Hid (Lib.IsBuilder 40 5 w.heap.size w.heap.size (Lib.byteCells (gl pre wc k ++ (pre k).data.toList)) w1) := Lib.hid (by rw [byteCells_append]; exact .inr hba)
      have HB1 : Hid (Below w.heap.size w w1) := Lib.hid ((HB.out.alloc hws _).trans hb1)
      have hw1 := HB1.out.size
      clear hib hba hb1 hap hitem hc1 hc2 HIB HB
      rcases (show wc k = 1 ∨ wc k = 2 ∨ (wc k ≠ 1 ∧ wc k ≠ 2) by omega) with h1 | h2 | ⟨h1, h2⟩
      · rw [h1] at hci
        have HG : Hid (gl pre wc (k + 1) = gl pre wc k ++ (pre k).data.toList ++ [42]) := Lib.hid (by rw [gl_succ]; simp [part, stars, h1])
        clear h1
        go_wp2_with fail
        refine (writeByte w.heap.size w.heap.size _ 42 _ HBA.out (by rw [Lib.byteCells_length, List.length_append]; have : (pre k).data.toList.length = (pre k).size := by simp
                                                                     omega) (by omega)).mono ?_
        rintro e w2 ⟨rfl, hba, hb2, hap⟩
        have HBA2 : Hid (Lib.IsBuilder 40 5 w.heap.size w.heap.size (Lib.byteCells (gl pre wc (k + 1))) w2) := Lib.hid (by rw [HG.out, byteCells_append]; exact .inr hba)
        have HB2 : Hid (Below w.heap.size w w2) := Lib.hid (HB1.out.trans hb2)
        clear hba hb2 hap HBA HB1
        go_wp2_with fail
        go_roundg (n - (k + 1))
        case rel => exact ⟨k + 1, by omega, rfl, by go_num, HBA2.out, HB2.out⟩
        case measure => omega
      · rw [h2] at hci
        have HG : Hid (gl pre wc (k + 1) = gl pre wc k ++ (pre k).data.toList ++ [42, 42]) := Lib.hid (by rw [gl_succ]; simp [part, stars, h2])
        clear h2
        go_wp2_with fail
        refine (writeString w.heap.size w.heap.size _ ⟨#[42, 42]⟩ _ HBA.out (by rw [Lib.byteCells_length, List.length_append]; have : (pre k).data.toList.length = (pre k).size := by simp
                                                                                have h2 : (⟨#[42, 42]⟩ : ByteArray).size = 2 := rfl
                                                                                omega) (by omega)).mono ?_
        rintro e w2 ⟨rfl, hba, hb2, hap⟩
        have HBA2 : Hid (Lib.IsBuilder 40 5 w.heap.size w.heap.size (Lib.byteCells (gl pre wc (k + 1))) w2) := Lib.hid (by rw [HG.out, byteCells_append]; exact .inr hba)
        have HB2 : Hid (Below w.heap.size w w2) := Lib.hid (HB1.out.trans hb2)
        clear hba hb2 hap HBA HB1
        go_wp2_with fail
        go_roundg (n - (k + 1))
        case rel => exact ⟨k + 1, by omega, rfl, by go_num, HBA2.out, HB2.out⟩
        case measure => omega
      · have HG : Hid (gl pre wc (k + 1) = gl pre wc k ++ (pre k).data.toList) := Lib.hid (by rw [gl_succ]; simp [part, stars, h1, h2])
        have e1 : (wc k == 1) = false := by simp [h1]
        have e2 : (wc k == 2) = false := by simp [h2]
        clear h1 h2
        go_wp2_with fail
        go_roundg (n - (k + 1))
        case rel => exact ⟨k + 1, by omega, rfl, by go_num, by rw [HG.out]; exact HBA.out, HB1.out⟩
        case measure => omega
    · have hkn : k = n := by omega
      subst hkn
      have HIB := Lib.hid hB1
      have HB := Lib.hid hbel
      have hws := hbel.size
      clear hB1 hbel
      go_wp2_with fail
      refine (Try.Builder_String_any w.heap.size w.heap.size (gl pre wc k) _ HIB.out hws).mono ?_
      rintro e w1 ⟨rfl, hb1⟩
      have HB1 := Lib.hid (HB.out.trans hb1)
      clear hb1
      go_wp2_with fail
      go_ret
      exact ⟨rfl, HB1.out⟩
end Go.Proofs.Ythkfaohmkncgeaa
