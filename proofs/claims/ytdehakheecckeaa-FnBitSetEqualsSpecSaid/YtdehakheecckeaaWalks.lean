/- The walks of the bit set's functions. -/
import Derived.Test.YtdehakheecckeaaRows
import Derived.Test.YtdehakheecckeaaMem
import Derived.Test.YtdehakheecckeaaMath
import Derived.WalkKit
import Derived.WalkLawsBesides
import Derived.WalkSpells
import Derived.Deep.LoopGhost
import Derived.Outline
import Derived.Lib.Strings
import Derived.Laws.BitsAllLaws
namespace Go.Proofs.Ytdehakheecckeaa
open Go.RowKit
set_option linter.unusedVariables false
set_option linter.unusedSimpArgs false

theorem Try.info5 : (Try.prog.info? 5).map (fun i => (i.zero, i.size, i.bytes)) = some (some (.int .u8 0), 1, 1) := by kernel_rfl
theorem Try.info22 : (Try.prog.info? 22).map (fun i => (i.zero, i.size, i.bytes)) = some (some (.int .u64 0), 1, 8) := by kernel_rfl

theorem only_alloc {a w : World} {row : Option Nat} (h : a.grownBy w row) (o : Obj) : a.grownBy (w.alloc o) row :=
  ⟨h.os, h.tape, h.output, Nat.le_trans h.size (by simp), fun i hi hne => (Below.heap_alloc w o i (Nat.lt_of_lt_of_le hi h.size)).trans (h.block i hi hne)⟩
theorem only_setCell {a w : World} {g : Nat} (h : a.grownBy w (some g)) {p : Addr} (hp : p.block = g ∨ a.heap.size ≤ p.block) (u : Value) : a.grownBy (w.setCell p u) (some g) :=
  ⟨h.os, h.tape, h.output, by simpa [World.setCell] using h.size, fun i hi hne => (Below.heap_setCell w p u i (by
    rintro rfl
    rcases hp with hp | hp
    · exact hne (by rw [hp])
    · omega)).trans (h.block i hi hne)⟩
def NewSet (m : Nat) (w : World) (e : Ending) (w' : World) : Prop :=
  ∃ g, e = .returned (.agg #[.slice (some ⟨g, 0, none⟩) m m]) ∧ w.heap.size ≤ g ∧ w'.rowIs g 5 m (fun _ => .int .u8 0) ∧ Below w.heap.size w w'

theorem newBitSet (n : Nat) (hn : n ≤ 65536) (w : World) : Calls Try.prog 7 #[.int .u64 n] w (NewSet ((n + 7) / 8) w) := by
  have hmk := run_make_at (P := Try.prog) 26 5 (.int .u8 0) 1 Try.underlying26 Try.info5 rfl .u64 .u64 ((n + 7) / 8) (((n : Int) + 7) / 8) (by omega) (by omega) (by omega)
  go_enter Try.func7, Try.ntmps7
  go_wp2
  refine bodyPost_ret (v := .agg #[.slice (some ⟨w.heap.size + 1, 0, none⟩) ((n + 7) / 8) ((n + 7) / 8)]) (by simp [results, Try.results7, go_sem]) rfl ⟨_, rfl, by omega, ?_, ?_⟩
  · have h := World.rowIs_made (w.alloc (.cells #[.slice (some ⟨w.heap.size + 1, 0, none⟩) ((n + 7) / 8) ((n + 7) / 8)] 28)) (.int .u8 0) ((n + 7) / 8) 5
    simpa using h
  · exact ((Below.refl _ _).alloc (Nat.le_refl _) _).alloc (by simp) _

def SetPost (g m : Nat) (e' : Nat → Nat) (w : World) (e : Ending) (w' : World) : Prop :=
  e = .returned (.tuple #[]) ∧ w'.rowIs g 5 m (fun i => .int .u8 (e' i)) ∧ w.grownBy w' (some g)

theorem shl1 : ∀ r, r < 8 → (2 : Int) ^ min r 8 % 256 = ((2 ^ r : Nat) : Int) := by decide
theorem and7 (b : Nat) (hb : b < 65536) : bits .and .u64 (b : Int) 7 = ((b % 8 : Nat) : Int) := by
  have := u64_and_nat b 7 (by omega) (by omega)
  rw [show ((7 : Nat) : Int) = 7 from rfl] at this
  rw [this, show (7 : Nat) = 2 ^ 3 - 1 from rfl, Nat.and_two_pow_sub_one_eq_mod]

theorem setBit (g m b : Nat) (e : Nat → Nat) (he : ∀ i, e i < 256) (hb : b < 65536) (hm : b / 8 < m) (w : World) (hr : w.rowIs g 5 m (fun i => .int .u8 (e i))) :
    Calls Try.prog 8 #[.agg #[.slice (some ⟨g, 0, none⟩) m m], .int .u64 b] w (SetPost g m (setb e b) w) := by
  have hc := fun o => (hr.alloc o).cell hm
  have hf := fun o => (hr.alloc o).frozen (b / 8)
  have hg := hr.lt
  have h8 := he (b / 8)
  have h7 := and7 b hb
  have hsh := shl1 (b % 8) (Nat.mod_lt _ (by omega))
  have hp : 2 ^ (b % 8) < 256 := by
    have : ∀ r, r < 8 → 2 ^ r < 256 := by decide
    exact this _ (Nat.mod_lt _ (by omega))
  have hor := u8_or_nat (e (b / 8)) (2 ^ (b % 8)) h8 hp
  have hq := Lib.hid (show setb e b (b / 8) = e (b / 8) ||| 2 ^ (b % 8) by unfold setb; simp)
  generalize hP : 2 ^ (b % 8) = p at *
  generalize hR : b % 8 = r at *
  generalize hQ : (e (b / 8) ||| p) = q at *
  have HP := Lib.hid hP
  have HR := Lib.hid hR
  have HQ := Lib.hid hQ
  have HRow := Lib.hid hr
  clear hP hR hQ hr he
  go_enter Try.func8, Try.ntmps8
  go_wp2
  go_end0
  refine ⟨rfl, ?_, ?_⟩
  · refine ((HRow.out.set (b / 8) (.int .u8 q)).alloc _).congr (fun i hi => ?_)
    by_cases e1 : i = b / 8
    · subst e1; simp [hq.out]
    · simp [e1, setb]
  · have h1 : w.grownBy w (some g) := World.grownBy.refl w _
    exact only_alloc (only_setCell h1 (.inl rfl) _) _
def CloneInts (f : Nat → Int) (n : Nat) (w : World) (e : Ending) (w' : World) : Prop :=
  ∃ A c, e = .returned (.slice A n c) ∧ RowF w' w'.heap.size A n (fun i => .int .u64 (f i)) ∧ Below w.heap.size w w'
theorem clone (A : Option Addr) (n c : Nat) (f : Nat → Int) (w : World) (h : InInts .u64 w A n c f) (hn : n ≤ 131072) : Calls Try.prog 6 #[.slice A n c] w (CloneInts f n w) := by
  have hmk := run_make_at (P := Try.prog) 23 22 (.int .u64 0) 8 Try.underlying23 Try.info22 rfl .i64 .i64 n (n : Int) rfl (by omega) (by omega)
  have hnil := fun w => Lib.run_eql_slice_nil (P := Try.prog) w 23 22 A n c 0 0 Try.underlying23
  have hrow := h.row
  rcases A with _ | ad
  · have hn0 : n = 0 := by
      rcases Nat.eq_zero_or_pos n with h0 | h0
      · exact h0
      · obtain ⟨b, o, e, _⟩ := hrow h0; cases e
    subst hn0
    clear hmk
    go_enter Try.func6, Try.ntmps6
    go_wp2
    go_ret
    exact ⟨_, _, rfl, fun h => absurd h (by omega), Below.refl _ _⟩
  · have HR := Lib.hid hrow
    clear hrow h
    go_enter Try.func6, Try.ntmps6
    go_wp2
    clear hmk hnil
    go_loopg [4] n (fun g i wr => ∃ k : Nat, k ≤ n ∧ g = n - k ∧ i = .int .i64 k ∧ wr.rowIs w.heap.size 22 n (fun j => .int .u64 (if j < k then f j else 0)) ∧ Below w.heap.size w wr)
    case atStart => exact ⟨0, Nat.zero_le _, rfl, rfl, (World.rowIs_made w _ n 22).congr (fun j _ => by simp), (Below.refl _ _).alloc (Nat.le_refl _) _⟩
    case round =>
      obtain ⟨k, hk, rfl, rfl, hrow, hbel⟩ := hrel
      by_cases hlt : k < n
      · obtain ⟨b, o, e, hb, hc⟩ := HR.out.at_ hlt
        injection e with e
        subst e
        have hc' : wr.cell? ⟨b, o + k, none⟩ = some (.int .u64 (f k)) := (hbel.cell (p := ⟨b, o + k, none⟩) hb).trans hc
        have hst := hrow.cell hlt
        have hfz := hrow.frozen k
        have HN : Hid (wr.rowIs w.heap.size 22 n fun j => .int .u64 (if j < k then f j else 0)) := hrow
        clear hc hrow
        go_wp2
        go_roundg (n - (k + 1))
        case rel =>
          exact ⟨k + 1, by omega, by omega, by go_num, (HN.out.set k _).congr (fun j _ => by
            by_cases e1 : j = k
            · subst e1; simp
            · by_cases e2 : j < k
              · simp [e1, e2, show j < k + 1 by omega]
              · simp [e1, e2, show ¬ j < k + 1 by omega]), hbel.setCell (Nat.le_refl _) _⟩
        case measure => omega
      · have hkn : k = n := by omega
        subst hkn
        have HN := Lib.hid hrow
        have HB := Lib.hid hbel
        clear hrow hbel
        go_wp2
        go_ret
        exact ⟨_, _, rfl, RowF.of_rowIs (HN.out.congr (fun j hj => by simp [hj])) (Nat.le_refl _) HN.out.lt, HB.out⟩

def eqB (m1 : Nat) (e1 : Nat → Nat) (m2 : Nat) (e2 : Nat → Nat) : Bool := decide (m1 = m2 ∧ ∀ i, i < m1 → e1 i = e2 i)
theorem str_toList (s : ByteArray) : s.toList = s.data.toList := by
  exact Lib.toList_data s
theorem eqB_str {m1 m2 : Nat} {e1 e2 : Nat → Nat} (h1 : ∀ i, e1 i < 256) (h2 : ∀ i, e2 i < 256) :
    ((strOfNums ((List.range m1).map fun i => (e1 i : Int))).toList == (strOfNums ((List.range m2).map fun i => (e2 i : Int))).toList) = eqB m1 e1 m2 e2 := by
  rw [str_toList, str_toList, strOfNums_data, strOfNums_data, Bool.eq_iff_iff, beq_iff_eq]
  unfold eqB
  rw [decide_eq_true_eq]
  simp only [List.map_map]
  constructor
  · intro h
    have hl := congrArg List.length h
    simp at hl
    subst hl
    refine ⟨rfl, fun i hi => ?_⟩
    have := congrArg (fun l => l[i]?) h
    simp [hi] at this
    have h3 := congrArg UInt8.toNat this
    simp at h3
    have := h1 i
    have := h2 i
    omega
  · rintro ⟨rfl, h⟩
    refine List.map_congr_left fun i hi => ?_
    simp at hi
    simp [h i hi]

theorem bytesEqual (g1 g2 m1 m2 : Nat) (e1 e2 : Nat → Nat) (h1 : ∀ i, e1 i < 256) (h2 : ∀ i, e2 i < 256) (w : World) (r1 : w.rowIs g1 5 m1 (fun i => .int .u8 (e1 i))) (r2 : w.rowIs g2 5 m2 (fun i => .int .u8 (e2 i))) :
    Calls Try.prog 11 #[.slice (some ⟨g1, 0, none⟩) m1 m1, .slice (some ⟨g2, 0, none⟩) m2 m2] w fun e w' => e = .returned (.bool (eqB m1 e1 m2 e2)) ∧ w = w' := by
  have c1 := conv_row (P := Try.prog) (c := m1) (RowF.of_rowIs r1 (Nat.le_refl _) r1.lt) 26 5 9 Try.underlying26 Try.underlying5 Try.underlying9
  have c2 := conv_row (P := Try.prog) (c := m2) (RowF.of_rowIs r2 (Nat.le_refl _) r2.lt) 26 5 9 Try.underlying26 Try.underlying5 Try.underlying9
  have he := Lib.hid (eqB_str (m1 := m1) (m2 := m2) h1 h2)
  generalize strOfNums ((List.range m1).map fun i => (e1 i : Int)) = s1 at *
  generalize strOfNums ((List.range m2).map fun i => (e2 i : Int)) = s2 at *
  clear r1 r2 h1 h2
  go_enter Try.func11, Try.ntmps11
  go_wp2
  go_ret
  exact ⟨by rw [← he.out]; rfl, rfl⟩

theorem equals (g1 g2 m1 m2 : Nat) (e1 e2 : Nat → Nat) (v : Bool) (hv : eqB m1 e1 m2 e2 = v) (h1 : ∀ i, e1 i < 256) (h2 : ∀ i, e2 i < 256) (w : World) (r1 : w.rowIs g1 5 m1 (fun i => .int .u8 (e1 i))) (r2 : w.rowIs g2 5 m2 (fun i => .int .u8 (e2 i))) :
    Calls Try.prog 9 #[.agg #[.slice (some ⟨g1, 0, none⟩) m1 m1], .agg #[.slice (some ⟨g2, 0, none⟩) m2 m2]] w fun e w' => e = .returned (.bool v) ∧ Below w.heap.size w w' := by
  have HV := Lib.hid hv
  have H1 := Lib.hid h1
  have H2 := Lib.hid h2
  have R1 := Lib.hid r1
  have R2 := Lib.hid r2
  clear hv h1 h2 r1 r2
  go_enter Try.func9, Try.ntmps9
  go_wp2_with (go_at_call 11; refine (bytesEqual g1 g2 m1 m2 e1 e2 H1.out H2.out _ ?_ ?_).mono ?_)
  · exact (R1.out.alloc _).alloc _
  · exact (R2.out.alloc _).alloc _
  rintro e w' ⟨rfl, rfl⟩
  go_wp2
  go_ret
  exact ⟨by rw [← HV.out]; rfl, ((Below.refl _ _).alloc (Nat.le_refl _) _).alloc (by simp) _⟩

theorem zzB10 (n : Int) (A : Option Addr) (m c : Nat) (hm : m ≤ maxLen) (w : World) : Calls Try.prog 10 #[.int .u64 n, .slice A m c] w fun e w' => e = .returned (.bool (decide (m ≤ 1048576))) ∧ w = w' := by
  unfold maxLen at hm
  go_enter Try.func10, Try.ntmps10
  go_wp2
  all_goals go_ret
  all_goals exact ⟨by simp <;> omega, rfl⟩
theorem zzB10_true (n : Int) (A : Option Addr) (m c : Nat) (hm : m ≤ 1048576) (w : World) : Calls Try.prog 10 #[.int .u64 n, .slice A m c] w fun e w' => e = .returned (.bool true) ∧ w = w' :=
  (zzB10 n A m c (by unfold maxLen; omega) w).mono fun e w' h => by rw [show decide (m ≤ 1048576) = true by simpa using hm] at h; exact h
end Go.Proofs.Ytdehakheecckeaa
