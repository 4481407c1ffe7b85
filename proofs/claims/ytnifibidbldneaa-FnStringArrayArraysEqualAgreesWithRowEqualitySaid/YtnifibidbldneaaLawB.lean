/- The walk of the law FnStringArrayArraysEqualAgreesWithRowEquality; how its arguments are opened. -/
import Derived.Test.YtnifibidbldneaaBound
namespace Go.Proofs.Ytnifibidbldneaa
open Go.RowKit Go.ChangeShapes Go.WideShapes Go.Deep
set_option linter.unusedVariables false
set_option linter.unusedSimpArgs false

theorem in_rows {H : Type} {enc : TypeId × Value → H} {P : Program} {w : World} {t e s : TypeId} {A : Option Addr} {n c : Nat} {d : DataW H} {p : List MemPlace} (ht : P.underlying t = some (.slice e)) (he : P.underlying e = some (.slice s)) (hs : P.underlying s = some .string)
    (hce : P.cellsOf e = 1) (hcs : P.cellsOf s = 1) (h : DataW.Trod enc P w 0 (fun _ => true) true t (.slice A n c) d p) : ∃ AA nn cc ff, InRows w A n c AA nn cc ff := by
  obtain ⟨fuel, hf⟩ := h
  rcases open_slice1 ht hce hf with ⟨hcs', _⟩ | ⟨x, l, c', m, q, V, D, Pl, hcs', _, hl, hm, hmm, _, hx⟩
  · simp [Value.cells] at hcs'
    obtain ⟨rfl, rfl, rfl⟩ := hcs'
    exact ⟨fun _ => none, fun _ => 0, fun _ => 0, fun _ _ => ByteArray.empty, fun h => absurd h (by omega), fun i hi => absurd hi (by omega), fun _ _ => Nat.zero_le _, fun _ => Nat.zero_le _, Nat.le_refl _, Nat.zero_le _⟩
  · simp [Value.cells] at hcs'
    obtain ⟨rfl, rfl, rfl⟩ := hcs'
    have hm' : m = c := by simpa using hmm
    subst hm'
    have each : ∀ i, i < m → ∃ (B : Option Addr) (k cap : Nat) (f : Nat → ByteArray), V i = .slice B k cap ∧ RowF w w.heap.size B k (fun j => .string (f j)) ∧ (∀ j, (f j).size ≤ maxLen) ∧ k ≤ maxLen := fun i hi => by
      have hi' := (hx i hi).2
      have hv : ∃ B k cap, V i = .slice B k cap := by
        rcases open_strings he hs hcs hi' with ⟨hq, _⟩ | ⟨a, k, cap, ss, hq, _⟩
        · exact ⟨none, 0, 0, by simpa using hq⟩
        · exact ⟨some a, k, cap, by simpa using hq⟩
      obtain ⟨B, k, cap, e⟩ := hv
      rw [e] at hi'
      obtain ⟨f, hin⟩ := in_strs (A := B) (n := k) (c := cap) he hs hcs ⟨_, by simpa [Value.cells] using hi'⟩
      exact ⟨B, k, cap, f, e, hin.row, hin.wf, Nat.le_trans hin.le hin.max⟩
    have each' : ∀ i, ∃ (B : Option Addr) (k cap : Nat) (f : Nat → ByteArray), (i < m → V i = .slice B k cap ∧ RowF w w.heap.size B k (fun j => .string (f j))) ∧ (∀ j, (f j).size ≤ maxLen) ∧ k ≤ maxLen := fun i => by
      by_cases hi : i < m
      · obtain ⟨B, k, cap, f, e, r, z, y⟩ := each i hi
        exact ⟨B, k, cap, f, fun _ => ⟨e, r⟩, z, y⟩
      · exact ⟨none, 0, 0, fun _ => ByteArray.empty, fun h => absurd h hi, fun _ => Nat.zero_le _, Nat.zero_le _⟩
    refine ⟨fun i => Classical.choose (each' i), fun i => Classical.choose (Classical.choose_spec (each' i)), fun i => Classical.choose (Classical.choose_spec (Classical.choose_spec (each' i))),
      fun i => Classical.choose (Classical.choose_spec (Classical.choose_spec (Classical.choose_spec (each' i)))), RowF.of_add (Nat.le_refl _) fun j hj => ?_, fun i hi => ?_, fun i => ?_, fun i => ?_, hl, hm⟩
    · have hsp := Classical.choose_spec (Classical.choose_spec (Classical.choose_spec (Classical.choose_spec (each' j))))
      rw [(hx j (by omega)).1, ← (hsp.1 (by omega)).1]
    · have hsp := Classical.choose_spec (Classical.choose_spec (Classical.choose_spec (Classical.choose_spec (each' i))))
      exact (hsp.1 (by omega)).2
    · exact (Classical.choose_spec (Classical.choose_spec (Classical.choose_spec (Classical.choose_spec (each' i))))).2.1
    · exact (Classical.choose_spec (Classical.choose_spec (Classical.choose_spec (Classical.choose_spec (each' i))))).2.2

/-- Lists of one and of two rows, in new blocks. -/
theorem rows1 {w w' : World} {g : Nat} {A : Option Addr} {n c : Nat} {f : Nat → ByteArray} (hg : g < w'.heap.size) (hc : w'.cell? ⟨g, 0, none⟩ = some (.slice A n c)) (h : RowF w' w'.heap.size A n (fun i => .string (f i))) (hn : n ≤ 1048576) :
    Rows2 w' w'.heap.size (some ⟨g, 0, none⟩) 1 (fun _ => A) (fun _ => n) (fun _ => c) (fun _ => f) :=
  ⟨fun _ => ⟨g, 0, rfl, hg, fun j hj => by obtain rfl : j = 0 := by omega
                                           exact hc⟩, fun _ _ => h, fun _ _ => hn⟩
def two {α : Type} (a b : α) : Nat → α := fun i => if i = 0 then a else b
theorem rows2 {w' : World} {g : Nat} {A A' : Option Addr} {n c n' c' : Nat} {f f' : Nat → ByteArray} (hg : g < w'.heap.size) (hc : w'.cell? ⟨g, 0, none⟩ = some (.slice A n c)) (hc' : w'.cell? ⟨g, 1, none⟩ = some (.slice A' n' c'))
    (h : RowF w' w'.heap.size A n (fun i => .string (f i))) (h' : RowF w' w'.heap.size A' n' (fun i => .string (f' i))) (hn : n ≤ 1048576) (hn' : n' ≤ 1048576) :
    Rows2 w' w'.heap.size (some ⟨g, 0, none⟩) 2 (two A A') (two n n') (two c c') (two f f') := by
  refine ⟨fun _ => ⟨g, 0, rfl, hg, fun j hj => ?_⟩, fun i hi => ?_, fun i hi => ?_⟩
  · rcases (show j = 0 ∨ j = 1 by omega) with rfl | rfl
    · exact hc
    · exact hc'
  · rcases (show i = 0 ∨ i = 1 by omega) with rfl | rfl
    · exact h
    · exact h'
  · rcases (show i = 0 ∨ i = 1 by omega) with rfl | rfl
    · exact hn
    · exact hn'
theorem same2_one (n : Nat) (f : Nat → ByteArray) (m : Nat) (g : Nat → ByteArray) : same2 1 (fun _ => n) (fun _ => f) 1 (fun _ => m) (fun _ => g) = sameS n f m g := by
  unfold same2
  cases h : sameS n f m g
  · exact decide_eq_false fun k => by have := k.2 0 (by omega); rw [h] at this; cases this
  · exact decide_eq_true ⟨rfl, fun _ _ => h⟩
theorem bel2 (w : World) (a b : Obj) : Below w.heap.size w ((w.alloc a).alloc b) := ((Below.refl _ _).alloc (Nat.le_refl _) _).alloc (by simp) _
theorem bel1 (w : World) (a : Obj) : Below w.heap.size w (w.alloc a) := (Below.refl _ _).alloc (Nat.le_refl _) _
theorem bel4 (w : World) (a b c d : Obj) : Below w.heap.size w ((((w.alloc a).alloc b).alloc c).alloc d) := ((bel2 w a b).alloc (by simp; omega) _).alloc (by simp; omega) _
theorem same2_two (n : Nat) (f : Nat → ByteArray) (m : Nat) (g : Nat → ByteArray) : same2 2 (two n m) (two f g) 2 (two m n) (two g f) = sameS n f m g := by
  unfold same2
  cases h : sameS n f m g
  · refine decide_eq_false fun k => ?_
    have := k.2 0 (by omega)
    simp only [two, if_pos] at this
    rw [h] at this; cases this
  · refine decide_eq_true ⟨rfl, fun i hi => ?_⟩
    rcases (show i = 0 ∨ i = 1 by omega) with rfl | rfl
    · exact h
    · show sameS m g n f = true
      rw [sameS_comm]; exact h
theorem same2_refl (n : Nat) (nn : Nat → Nat) (ff : Nat → Nat → ByteArray) : same2 n nn ff n nn ff = true := decide_eq_true ⟨rfl, fun i _ => sameS_refl _ _⟩

set_option maxHeartbeats 2000000 in
theorem fnStringArrayArraysEqualAgreesWithRowEquality.walk (a0 : Option Addr) (n0 c0 : Nat) (f0 : Nat → ByteArray) (a1 : Option Addr) (n1 c1 : Nat) (f1 : Nat → ByteArray) (a2 : Option Addr) (n2 c2 : Nat) (aa2 : Nat → Option Addr) (nn2 cc2 : Nat → Nat) (ff2 : Nat → Nat → ByteArray) (w : World)
    (w0 : InStrs w a0 n0 c0 f0) (w1 : InStrs w a1 n1 c1 f1) (w2 : InRows w a2 n2 c2 aa2 nn2 cc2 ff2) :
    Calls Try.prog 4 #[.slice a0 n0 c0, .slice a1 n1 c1, .slice a2 n2 c2] w fun e w' => e = .returned (.bool true) ∧ Below w.heap.size w w' := by
  by_cases htot : n0 + tot f0 n0 + n1 + tot f1 n1 + n2 + tot2 nn2 ff2 n2 ≤ 1048576
  · have C1 := Lib.hid (decB true (decide_eq_true htot) (zzB10 a0 n0 c0 f0 a1 n1 c1 f1 a2 n2 c2 aa2 nn2 cc2 ff2 w w0 w1 w2))
    have W0 := Lib.hid w0
    have W1 := Lib.hid w1
    have W2 : Hid (Rows2 w w.heap.size a2 n2 aa2 nn2 cc2 ff2) := Lib.hid ⟨w2.out, w2.inn, fun i hi => by have := tot2_at nn2 ff2 hi; omega⟩
    clear w0 w1 w2
    go_enter Try.func4, Try.ntmps4
    go_wp2_with fail
    refine C1.out.mono ?_
    rintro e w' ⟨rfl, rfl⟩
    go_wp2_with fail
    refine (strBytes _ _ _ f0 _ _ W0.out.row (by omega)).mono ?_
    rintro e w' ⟨r, rfl, rfl, hr0, hr1, hr2⟩
    clear hr2
    go_wp2_with fail
    refine (strBytes _ _ _ f1 _ _ W1.out.row (by omega)).mono ?_
    rintro e w' ⟨r', rfl, rfl, hr0', hr1', hr2'⟩
    clear hr2'
    go_wp2_with fail
    refine (strBytes2 _ _ _ _ _ _ _ _ _ W2.out (by omega)).mono ?_
    rintro e w' ⟨r'', rfl, rfl, hr0'', hr1''⟩
    by_cases hsum : r + r' + r'' ≤ 1048576
    · go_wp2_with fail
      refine (clone _ _ _ f0 _ W0.out.row (by omega)).mono ?_
      rintro e wa ⟨A, c, rfl, hcc, hra, hba⟩
      have HX := Lib.hid hra
      have HBA := Lib.hid hba
      have HY := Lib.hid ((W1.out.row.below hba).more hba.size)
      have HZ := Lib.hid ((W2.out.below hba).more hba.size)
      clear hra hba hcc
      go_wp2_with fail
      refine (clone _ _ _ f1 _ HY.out (by omega)).mono ?_
      rintro e wb ⟨A', c', rfl, hcc, hrb, hbb⟩
      have HX' := Lib.hid ((HX.out.below hbb).more hbb.size)
      have HY' := Lib.hid hrb
      have HZ' := Lib.hid ((HZ.out.below hbb).more hbb.size)
      have HBB := Lib.hid (HBA.out.trans (hbb.mono HBA.out.size))
      clear hrb hbb hcc HX HY HZ HBA
      go_wp2_with fail
      refine (clone2 _ _ _ _ _ _ _ _ HZ'.out (by omega)).mono ?_
      rintro e wc ⟨A2, k2, AX, cx, rfl, hrz, hbc⟩
      have X := Lib.hid ((HX'.out.below hbc).more hbc.size)
      have Y := Lib.hid ((HY'.out.below hbc).more hbc.size)
      have Z := Lib.hid hrz
      have HBC := Lib.hid (HBB.out.trans (hbc.mono HBB.out.size))
      clear hrz hbc HX' HY' HZ' HBB
      go_wp2_with fail
      refine (arraysEqual A n0 c f0 A' n1 c' f1 _ _ _ X.out Y.out (by omega) (by omega)).mono ?_
      rintro e w' ⟨rfl, rfl⟩
      have h1 := same2_one n0 f0 n1 f1
      have h2 := same2_two n0 f0 n1 f1
      generalize sameS n0 f0 n1 f1 = v at *
      have H1 := Lib.hid h1
      have H2 := Lib.hid h2
      clear h1 h2
      cases v
      all_goals
        go_wp2_with fail
        have d1 : ((wc.alloc (.cells #[.slice A n0 c] 22)).alloc (.cells #[.slice A' n1 c'] 22)).cell? ⟨wc.heap.size, 0, none⟩ = some (.slice A n0 c) := by simp [go_sem]
        have d2 : ((wc.alloc (.cells #[.slice A n0 c] 22)).alloc (.cells #[.slice A' n1 c'] 22)).cell? ⟨wc.heap.size + 1, 0, none⟩ = some (.slice A' n1 c') := by simp [go_sem]
        have B5 := Lib.hid (bel2 wc (.cells #[.slice A n0 c] 22) (.cells #[.slice A' n1 c'] 22))
        have s5 : ((wc.alloc (.cells #[.slice A n0 c] 22)).alloc (.cells #[.slice A' n1 c'] 22)).heap.size = wc.heap.size + 2 := by simp
        generalize (wc.alloc (.cells #[.slice A n0 c] 22)).alloc (.cells #[.slice A' n1 c'] 22) = w5 at *
        have D1 := Lib.hid d1
        have D2 := Lib.hid d2
        have S5 := Lib.hid s5
        clear d1 d2 s5
        have X5 := Lib.hid ((X.out.below B5.out).more B5.out.size)
        have Y5 := Lib.hid ((Y.out.below B5.out).more B5.out.size)
        have Z5 := Lib.hid ((Z.out.below B5.out).more B5.out.size)
        refine (arraysEqual2v _ _ 1 1 _ _ _ _ _ 1 1 _ _ _ _ _ _ _ (rows1 (w := wc) (by rw [S5.out]; omega) D1.out X5.out (by omega)) (rows1 (w := wc) (by rw [S5.out]; omega) D2.out Y5.out (by omega)) (by omega) (by omega) H1.out).mono ?_
        rintro e w' ⟨rfl, rfl⟩
        clear D1 D2 S5
        go_wp2_with fail
        have d1 : ((w5.alloc (.cells #[.slice A n0 c, .slice A' n1 c'] 22)).alloc (.cells #[.slice A' n1 c', .slice A n0 c] 22)).cell? ⟨w5.heap.size, 0, none⟩ = some (.slice A n0 c) := by simp [go_sem]
        have d2 : ((w5.alloc (.cells #[.slice A n0 c, .slice A' n1 c'] 22)).alloc (.cells #[.slice A' n1 c', .slice A n0 c] 22)).cell? ⟨w5.heap.size, 1, none⟩ = some (.slice A' n1 c') := by simp [go_sem]
        have d3 : ((w5.alloc (.cells #[.slice A n0 c, .slice A' n1 c'] 22)).alloc (.cells #[.slice A' n1 c', .slice A n0 c] 22)).cell? ⟨w5.heap.size + 1, 0, none⟩ = some (.slice A' n1 c') := by simp [go_sem]
        have d4 : ((w5.alloc (.cells #[.slice A n0 c, .slice A' n1 c'] 22)).alloc (.cells #[.slice A' n1 c', .slice A n0 c] 22)).cell? ⟨w5.heap.size + 1, 1, none⟩ = some (.slice A n0 c) := by simp [go_sem]
        have B6 := Lib.hid (bel2 w5 (.cells #[.slice A n0 c, .slice A' n1 c'] 22) (.cells #[.slice A' n1 c', .slice A n0 c] 22))
        have s6 : ((w5.alloc (.cells #[.slice A n0 c, .slice A' n1 c'] 22)).alloc (.cells #[.slice A' n1 c', .slice A n0 c] 22)).heap.size = w5.heap.size + 2 := by simp
        generalize (w5.alloc (.cells #[.slice A n0 c, .slice A' n1 c'] 22)).alloc (.cells #[.slice A' n1 c', .slice A n0 c] 22) = w6 at *
        have D1 := Lib.hid d1
        have D2 := Lib.hid d2
        have D3 := Lib.hid d3
        have D4 := Lib.hid d4
        have S6 := Lib.hid s6
        clear d1 d2 d3 d4 s6
        have X6 := Lib.hid ((X5.out.below B6.out).more B6.out.size)
        have Y6 := Lib.hid ((Y5.out.below B6.out).more B6.out.size)
        have Z6 := Lib.hid ((Z5.out.below B6.out).more B6.out.size)
        refine (arraysEqual2v _ _ 2 2 _ _ _ _ _ 2 2 _ _ _ _ _ _ _ (rows2 (by rw [S6.out]; omega) D1.out D2.out X6.out Y6.out (by omega) (by omega)) (rows2 (by rw [S6.out]; omega) D3.out D4.out Y6.out X6.out (by omega) (by omega)) (by omega) (by omega) H2.out).mono ?_
        rintro e w' ⟨rfl, rfl⟩
        clear D1 D2 D3 D4 S6
        go_wp2_with fail
        refine (arraysEqual2v true _ n2 _ _ _ _ _ _ n2 _ _ _ _ _ _ _ _ Z6.out Z6.out (by omega) (by omega) (same2_refl _ _ _)).mono ?_
        rintro e w' ⟨rfl, rfl⟩
        go_wp2_with fail
        refine (clone2 _ _ _ _ _ _ _ _ Z6.out (by omega)).mono ?_
        rintro e w7 ⟨A7, k7, AX7, cx7, rfl, hr7, hb7⟩
        have Z7 := Lib.hid ((Z6.out.below hb7).more hb7.size)
        have V7 := Lib.hid hr7
        have B7 := Lib.hid hb7
        clear hr7 hb7
        go_wp2_with fail
        refine (arraysEqual2v true _ n2 _ _ _ _ _ _ n2 _ _ _ _ _ _ _ _ Z7.out V7.out (by omega) (by omega) (same2_refl _ _ _)).mono ?_
        rintro e w' ⟨rfl, rfl⟩
        go_wp2_with fail
        refine (arraysEqual2v true none 0 0 (fun _ => none) (fun _ => 0) (fun _ => 0) (fun _ _ => ByteArray.empty) _ 0 0 (fun _ => none) (fun _ => 0) (fun _ => 0) (fun _ _ => ByteArray.empty) 0 0 _ ⟨fun h => absurd h (by omega), fun i hi => absurd hi (by omega), fun i hi => absurd hi (by omega)⟩ ⟨fun h => absurd h (by omega), fun i hi => absurd hi (by omega), fun i hi => absurd hi (by omega)⟩ (by omega) (by omega) (same2_refl _ _ _)).mono ?_
        rintro e w' ⟨rfl, rfl⟩
        go_wp2_with fail
        have B8 := Lib.hid (bel4 w7 (.cells #[] 22) (.cells #[.slice none 0 0] 22) (.cells #[] 9) (.cells #[.slice (some ⟨w7.heap.size + 1 + 1, 0, none⟩) 0 0] 22))
        have d1 : ((((w7.alloc (.cells #[] 22)).alloc (.cells #[.slice none 0 0] 22)).alloc (.cells #[] 9)).alloc (.cells #[.slice (some ⟨w7.heap.size + 1 + 1, 0, none⟩) 0 0] 22)).cell? ⟨w7.heap.size + 1, 0, none⟩ = some (.slice none 0 0) := by simp [go_sem]
        have d2 : ((((w7.alloc (.cells #[] 22)).alloc (.cells #[.slice none 0 0] 22)).alloc (.cells #[] 9)).alloc (.cells #[.slice (some ⟨w7.heap.size + 1 + 1, 0, none⟩) 0 0] 22)).cell? ⟨w7.heap.size + 1 + 1 + 1, 0, none⟩ = some (.slice (some ⟨w7.heap.size + 1 + 1, 0, none⟩) 0 0) := by simp [go_sem]
        have s8 : ((((w7.alloc (.cells #[] 22)).alloc (.cells #[.slice none 0 0] 22)).alloc (.cells #[] 9)).alloc (.cells #[.slice (some ⟨w7.heap.size + 1 + 1, 0, none⟩) 0 0] 22)).heap.size = w7.heap.size + 4 := by simp
        generalize (((w7.alloc (.cells #[] 22)).alloc (.cells #[.slice none 0 0] 22)).alloc (.cells #[] 9)).alloc (.cells #[.slice (some ⟨w7.heap.size + 1 + 1, 0, none⟩) 0 0] 22) = w8 at *
        have D1 := Lib.hid d1
        have D2 := Lib.hid d2
        have S8 := Lib.hid s8
        clear d1 d2 s8
        refine (arraysEqual2v true _ 1 1 (fun _ => none) (fun _ => 0) (fun _ => 0) (fun _ _ => ByteArray.empty) _ 1 1 (fun _ => some ⟨w7.heap.size + 1 + 1, 0, none⟩) (fun _ => 0) (fun _ => 0) (fun _ _ => ByteArray.empty) _ _ _
          (rows1 (w := wc) (by rw [S8.out]; omega) D1.out (fun h => absurd h (by omega)) (by omega)) (rows1 (w := wc) (by rw [S8.out]; omega) D2.out (fun h => absurd h (by omega)) (by omega)) (by omega) (by omega) (same2_refl _ _ _)).mono ?_
        rintro e w' ⟨rfl, rfl⟩
        go_wp2_with fail
        go_ret
        have z1 := HBC.out.size
        have z5 := B5.out.size
        have z6 := B6.out.size
        have z7 := B7.out.size
        exact ⟨rfl, (((HBC.out.trans (B5.out.mono z1)).trans (B6.out.mono (by omega))).trans (B7.out.mono (by omega))).trans (B8.out.mono (by omega))⟩
    · go_wp2_with fail
      go_ret
      exact ⟨rfl, Below.refl _ _⟩
  · have C1 := Lib.hid (decB false (decide_eq_false htot) (zzB10 a0 n0 c0 f0 a1 n1 c1 f1 a2 n2 c2 aa2 nn2 cc2 ff2 w w0 w1 w2))
    clear w0 w1 w2
    go_enter Try.func4, Try.ntmps4
    go_wp2_with fail
    refine C1.out.mono ?_
    rintro e w' ⟨rfl, rfl⟩
    go_wp2_with fail
    go_ret
    exact ⟨rfl, Below.refl _ _⟩
end Go.Proofs.Ytnifibidbldneaa
