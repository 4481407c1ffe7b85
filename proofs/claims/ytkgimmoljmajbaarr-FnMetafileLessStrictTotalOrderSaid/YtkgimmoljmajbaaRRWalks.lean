/- The walk of the law on metafileArray.Less (n011_164). -/
import Derived.Test.YtkgimmoljmajbaaRRRows
import Derived.WalkKit
import Derived.WalkLawsBesides
import Derived.OpenShut
import Derived.Outline
import Derived.Lib.Hide
namespace Go.Proofs.YtkgimmoljmajbaaRR
open Go.RowKit
set_option linter.unusedVariables false
set_option linter.unusedSimpArgs false

theorem ret_bool {a b : Bool} (h : a = true ↔ b = true) : Ending.returned (.bool a) = .returned (.bool b) := by rw [Bool.eq_iff_iff.2 h]
theorem bl_irrefl : ∀ x : List UInt8, Op.bytesLess x x = false
  | [] => rfl
  | a :: x => by simp [Op.bytesLess, bl_irrefl x]
theorem bl_asymm : ∀ x y : List UInt8, Op.bytesLess x y = true → Op.bytesLess y x = false
  | [], [] => by simp [Op.bytesLess]
  | [], _ :: _ => by simp [Op.bytesLess]
  | _ :: _, [] => by simp [Op.bytesLess]
  | a :: x, b :: y => by
    simp only [Op.bytesLess, Bool.or_eq_true, decide_eq_true_eq, Bool.and_eq_true, beq_iff_eq, Bool.or_eq_false_iff, decide_eq_false_iff_not, Bool.and_eq_false_iff, beq_eq_false_iff_ne]
    rintro (h | ⟨h, k⟩)
    · exact ⟨UInt8.lt_asymm h, .inl (fun e => by rw [e] at h; exact UInt8.lt_irrefl _ h)⟩
    · exact ⟨by rw [h]; exact UInt8.lt_irrefl _, .inr (bl_asymm x y k)⟩
theorem bl_total : ∀ x y : List UInt8, x ≠ y → Op.bytesLess x y = true ∨ Op.bytesLess y x = true
  | [], [], h => absurd rfl h
  | [], _ :: _, _ => .inl rfl
  | _ :: _, [], _ => .inr rfl
  | a :: x, b :: y, h => by
    simp only [Op.bytesLess, Bool.or_eq_true, decide_eq_true_eq, Bool.and_eq_true, beq_iff_eq]
    by_cases e : a = b
    · subst e
      have hxy : x ≠ y := fun e => h (by rw [e])
      rcases bl_total x y hxy with k | k
      · exact .inl (.inr ⟨rfl, k⟩)
      · exact .inr (.inr ⟨rfl, k⟩)
    · rcases UInt8.lt_or_lt_of_ne e with k | k
      · exact .inl (.inl k)
      · exact .inr (.inl k)
theorem bl_trans : ∀ x y z : List UInt8, Op.bytesLess x y = true → Op.bytesLess y z = true → Op.bytesLess x z = true
  | _, _, [] => by simp [Op.bytesLess]
  | _, [], _ :: _ => by simp [Op.bytesLess]
  | [], _ :: _, _ :: _ => by simp [Op.bytesLess]
  | a :: x, b :: y, c :: z => by
    simp only [Op.bytesLess, Bool.or_eq_true, decide_eq_true_eq, Bool.and_eq_true, beq_iff_eq]
    rintro (h | ⟨h, k⟩) (h' | ⟨h', k'⟩)
    · exact .inl (UInt8.lt_trans h h')
    · exact .inl (by rw [← h']; exact h)
    · exact .inl (by rw [h]; exact h')
    · exact .inr ⟨h.trans h', bl_trans x y z k k'⟩
/-- The order: greater sizes first, then names. -/
def lessB (a : ByteArray) (s : Int) (b : ByteArray) (t : Int) : Bool := decide (t < s) || (decide (s = t) && Op.bytesLess a.toList b.toList)
theorem le_irrefl (a : ByteArray) (s : Int) : lessB a s a s = false := by simp [lessB, bl_irrefl]
theorem le_asymm {a : ByteArray} {s : Int} {b : ByteArray} {t : Int} (h : lessB a s b t = true) : lessB b t a s = false := by
  simp only [lessB, Bool.or_eq_true, decide_eq_true_eq, Bool.and_eq_true, Bool.or_eq_false_iff, decide_eq_false_iff_not, Bool.and_eq_false_iff] at h ⊢
  rcases h with h | ⟨h, k⟩
  · exact ⟨by omega, .inl (by omega)⟩
  · exact ⟨by omega, .inr (bl_asymm _ _ k)⟩
theorem le_total {a : ByteArray} {s : Int} {b : ByteArray} {t : Int} (h : ¬ (s = t ∧ a.toList = b.toList)) : lessB a s b t = true ∨ lessB b t a s = true := by
  simp only [lessB, Bool.or_eq_true, decide_eq_true_eq, Bool.and_eq_true]
  by_cases e : s = t
  · have hn : a.toList ≠ b.toList := fun k => h ⟨e, k⟩
    rcases bl_total _ _ hn with k | k
    · exact .inl (.inr ⟨e, k⟩)
    · exact .inr (.inr ⟨e.symm, k⟩)
  · rcases (show t < s ∨ s < t by omega) with k | k
    · exact .inl (.inl k)
    · exact .inr (.inl k)
theorem le_trans {a : ByteArray} {s : Int} {b : ByteArray} {t : Int} {c : ByteArray} {u : Int} (h : lessB a s b t = true) (k : lessB b t c u = true) : lessB a s c u = true := by
  simp only [lessB, Bool.or_eq_true, decide_eq_true_eq, Bool.and_eq_true] at h k ⊢
  rcases h with h | ⟨h, h'⟩ <;> rcases k with k | ⟨k, k'⟩
  · exact .inl (by omega)
  · exact .inl (by omega)
  · exact .inl (by omega)
  · exact .inr ⟨by omega, bl_trans _ _ _ h' k'⟩
theorem le_same {a : ByteArray} {s : Int} {b : ByteArray} {t : Int} (h : s = t ∧ a.toList = b.toList) : lessB a s b t = false ∧ lessB b t a s = false := by
  obtain ⟨rfl, e⟩ := h
  simp [lessB, e, bl_irrefl]

theorem zzLess (a : ByteArray) (s : Int) (b : ByteArray) (t : Int) (w : World) : Calls Try.prog 5 #[.string a, .int .i64 s, .string b, .int .i64 t] w fun e w' => e = .returned (.bool (lessB a s b t)) ∧ Below w.heap.size w w' := by
  rcases (show t < s ∨ s = t ∨ s < t by omega) with h | h | h
  · have hs : lessB a s b t = true := by simp [lessB, h]
    rw [hs]
    clear hs
    go_enter Try.func5, Try.ntmps5
    go_wp2
    go_ret
    refine ⟨rfl, ?_⟩
    repeat' (first | exact Below.refl _ _ | refine Below.alloc ?_ ?_ _ | refine Below.setCell ?_ ?_ _ | refine below_drewN ?_ _ | refine Below.drew ?_ | (simp <;> omega) | omega)
  · subst h
    have hs : lessB a s b s = Op.bytesLess a.toList b.toList := by simp [lessB]
    rw [hs]
    clear hs
    go_enter Try.func5, Try.ntmps5
    go_wp2
    go_ret
    refine ⟨rfl, ?_⟩
    repeat' (first | exact Below.refl _ _ | refine Below.alloc ?_ ?_ _ | refine Below.setCell ?_ ?_ _ | refine below_drewN ?_ _ | refine Below.drew ?_ | (simp <;> omega) | omega)
  · have hs : lessB a s b t = false := by simp [lessB]; omega
    have hne : ¬ s = t := by omega
    rw [hs]
    clear hs
    go_enter Try.func5, Try.ntmps5
    go_wp2
    go_ret
    refine ⟨ret_bool (by simp <;> omega), ?_⟩
    repeat' (first | exact Below.refl _ _ | refine Below.alloc ?_ ?_ _ | refine Below.setCell ?_ ?_ _ | refine below_drewN ?_ _ | refine Below.drew ?_ | (simp <;> omega) | omega)

theorem zzB (a : ByteArray) (s : Int) (b : ByteArray) (t : Int) (c : ByteArray) (u : Int) (ha : a.size ≤ maxLen) (hb : b.size ≤ maxLen) (hc : c.size ≤ maxLen) (w : World) : Calls Try.prog 4 #[.string a, .int .i64 s, .string b, .int .i64 t, .string c, .int .i64 u] w fun e w' => e = .returned (.bool (decide (a.size + b.size + c.size ≤ 1048576))) ∧ w = w' := by
  unfold maxLen at ha hb hc
  go_enter Try.func4, Try.ntmps4
  go_wp2
  all_goals go_ret
  all_goals exact ⟨ret_bool (by simp <;> omega), rfl⟩

theorem below_go {w Y w' : World} (h : Below w.heap.size w Y) (k : Below Y.heap.size Y w') : Below w.heap.size w w' := h.trans (k.mono h.size)
set_option maxHeartbeats 4000000 in
theorem fnMetafileLessStrictTotalOrder.walk (a0 : ByteArray) (w0 : a0.size ≤ maxLen) (a1 : Int) (w1 : (Lit.int .i64 a1).wf = true) (a2 : ByteArray) (w2 : a2.size ≤ maxLen) (a3 : Int) (w3 : (Lit.int .i64 a3).wf = true) (a4 : ByteArray) (w4 : a4.size ≤ maxLen) (a5 : Int) (w5 : (Lit.int .i64 a5).wf = true) (w : World) : Calls Try.prog 3 #[.string a0, .int .i64 a1, .string a2, .int .i64 a3, .string a4, .int .i64 a5] w fun e w' => e = .returned (.bool true) ∧ Below w.heap.size w w' := by
  clear w1 w3 w5
  have hi := le_irrefl a0 a1
  by_cases hz : a0.size + a2.size + a4.size ≤ 1048576
  · have hd : decide (a0.size + a2.size + a4.size ≤ 1048576) = true := by simpa using hz
    by_cases hq : a0.size ≤ 262144 ∧ a2.size ≤ 262144 ∧ a4.size ≤ 262144
    · obtain ⟨q0, q1, q2⟩ := hq
      by_cases hs : a1 = a3 ∧ a0.toList = a2.toList
      · obtain ⟨x1, x2⟩ := le_same hs
        obtain ⟨e1, e2⟩ := hs
        subst e1
        have hb2 : (a0.toList == a2.toList) = true := by simpa using e2
        clear e2
        cases y1 : lessB a2 a1 a4 a5 <;> cases y2 : lessB a0 a1 a4 a5
        all_goals
          go_enter Try.func3, Try.ntmps3
          go_wp2_with (first | (go_at_call 4; refine (zzB _ _ _ _ _ _ w0 w2 w4 _).mono ?_; rintro e w' ⟨rfl, rfl⟩) | (go_at_call 5; refine (zzLess _ _ _ _ _).mono ?_; rintro e w' ⟨rfl, hb⟩))
          all_goals go_ret
          all_goals refine ⟨ret_bool (by simp), ?_⟩
          all_goals repeat' (first | exact Below.refl _ _ | refine below_go ?_ (by assumption))
      · have hsame : ((a1 == a3) = false) ∨ (a1 = a3 ∧ (a0.toList == a2.toList) = false) := by
          by_cases e : a1 = a3
          · right; refine ⟨e, ?_⟩; simp; exact fun h => hs ⟨e, h⟩
          · left; simpa using e
        have hor : (lessB a0 a1 a2 a3 = true ∧ lessB a2 a3 a0 a1 = false) ∨ (lessB a0 a1 a2 a3 = false ∧ lessB a2 a3 a0 a1 = true) := by
          rcases le_total hs with h | h
          · exact .inl ⟨h, le_asymm h⟩
          · exact .inr ⟨le_asymm h, h⟩
        have htr := Lib.hid (@le_trans a0 a1 a2 a3 a4 a5)
        clear hs
        rcases hsame with e1 | ⟨e0, e1⟩
        · rcases hor with ⟨x1, x2⟩ | ⟨x1, x2⟩
          · cases y1 : lessB a2 a3 a4 a5
            · cases y2 : lessB a0 a1 a4 a5
              all_goals
                go_enter Try.func3, Try.ntmps3
                go_wp2_with (first | (go_at_call 4; refine (zzB _ _ _ _ _ _ w0 w2 w4 _).mono ?_; rintro e w' ⟨rfl, rfl⟩) | (go_at_call 5; refine (zzLess _ _ _ _ _).mono ?_; rintro e w' ⟨rfl, hb⟩))
                all_goals go_ret
                all_goals refine ⟨ret_bool (by simp), ?_⟩
                all_goals repeat' (first | exact Below.refl _ _ | refine below_go ?_ (by assumption))
            · have y2 := htr.out x1 y1
              go_enter Try.func3, Try.ntmps3
              go_wp2_with (first | (go_at_call 4; refine (zzB _ _ _ _ _ _ w0 w2 w4 _).mono ?_; rintro e w' ⟨rfl, rfl⟩) | (go_at_call 5; refine (zzLess _ _ _ _ _).mono ?_; rintro e w' ⟨rfl, hb⟩))
              all_goals go_ret
              all_goals refine ⟨ret_bool (by simp), ?_⟩
              all_goals repeat' (first | exact Below.refl _ _ | refine below_go ?_ (by assumption))
          · cases y1 : lessB a2 a3 a4 a5 <;> cases y2 : lessB a0 a1 a4 a5
            all_goals
              go_enter Try.func3, Try.ntmps3
              go_wp2_with (first | (go_at_call 4; refine (zzB _ _ _ _ _ _ w0 w2 w4 _).mono ?_; rintro e w' ⟨rfl, rfl⟩) | (go_at_call 5; refine (zzLess _ _ _ _ _).mono ?_; rintro e w' ⟨rfl, hb⟩))
              all_goals go_ret
              all_goals refine ⟨ret_bool (by simp), ?_⟩
              all_goals repeat' (first | exact Below.refl _ _ | refine below_go ?_ (by assumption))
        · subst e0
          rcases hor with ⟨x1, x2⟩ | ⟨x1, x2⟩
          · cases y1 : lessB a2 a1 a4 a5
            · cases y2 : lessB a0 a1 a4 a5
              all_goals
                go_enter Try.func3, Try.ntmps3
                go_wp2_with (first | (go_at_call 4; refine (zzB _ _ _ _ _ _ w0 w2 w4 _).mono ?_; rintro e w' ⟨rfl, rfl⟩) | (go_at_call 5; refine (zzLess _ _ _ _ _).mono ?_; rintro e w' ⟨rfl, hb⟩))
                all_goals go_ret
                all_goals refine ⟨ret_bool (by simp), ?_⟩
                all_goals repeat' (first | exact Below.refl _ _ | refine below_go ?_ (by assumption))
            · have y2 := htr.out x1 y1
              go_enter Try.func3, Try.ntmps3
              go_wp2_with (first | (go_at_call 4; refine (zzB _ _ _ _ _ _ w0 w2 w4 _).mono ?_; rintro e w' ⟨rfl, rfl⟩) | (go_at_call 5; refine (zzLess _ _ _ _ _).mono ?_; rintro e w' ⟨rfl, hb⟩))
              all_goals go_ret
              all_goals refine ⟨ret_bool (by simp), ?_⟩
              all_goals repeat' (first | exact Below.refl _ _ | refine below_go ?_ (by assumption))
          · cases y1 : lessB a2 a1 a4 a5 <;> cases y2 : lessB a0 a1 a4 a5
            all_goals
              go_enter Try.func3, Try.ntmps3
              go_wp2_with (first | (go_at_call 4; refine (zzB _ _ _ _ _ _ w0 w2 w4 _).mono ?_; rintro e w' ⟨rfl, rfl⟩) | (go_at_call 5; refine (zzLess _ _ _ _ _).mono ?_; rintro e w' ⟨rfl, hb⟩))
              all_goals go_ret
              all_goals refine ⟨ret_bool (by simp), ?_⟩
              all_goals repeat' (first | exact Below.refl _ _ | refine below_go ?_ (by assumption))
    · by_cases q0 : 262144 < a0.size
      · skip
        go_enter Try.func3, Try.ntmps3
        go_wp2_with (first | (go_at_call 4; refine (zzB _ _ _ _ _ _ w0 w2 w4 _).mono ?_; rintro e w' ⟨rfl, rfl⟩) | (go_at_call 5; refine (zzLess _ _ _ _ _).mono ?_; rintro e w' ⟨rfl, hb⟩))
        all_goals go_ret
        all_goals refine ⟨ret_bool (by simp), ?_⟩
        all_goals repeat' (first | exact Below.refl _ _ | refine below_go ?_ (by assumption))
      · have d0 : decide (262144 < a0.size) = false := by simpa using q0
        by_cases q1 : 262144 < a2.size
        · skip
          go_enter Try.func3, Try.ntmps3
          go_wp2_with (first | (go_at_call 4; refine (zzB _ _ _ _ _ _ w0 w2 w4 _).mono ?_; rintro e w' ⟨rfl, rfl⟩) | (go_at_call 5; refine (zzLess _ _ _ _ _).mono ?_; rintro e w' ⟨rfl, hb⟩))
          all_goals go_ret
          all_goals refine ⟨ret_bool (by simp), ?_⟩
          all_goals repeat' (first | exact Below.refl _ _ | refine below_go ?_ (by assumption))
        · have d1 : decide (262144 < a2.size) = false := by simpa using q1
          have q2 : 262144 < a4.size := by omega
          go_enter Try.func3, Try.ntmps3
          go_wp2_with (first | (go_at_call 4; refine (zzB _ _ _ _ _ _ w0 w2 w4 _).mono ?_; rintro e w' ⟨rfl, rfl⟩) | (go_at_call 5; refine (zzLess _ _ _ _ _).mono ?_; rintro e w' ⟨rfl, hb⟩))
          all_goals go_ret
          all_goals refine ⟨ret_bool (by simp), ?_⟩
          all_goals repeat' (first | exact Below.refl _ _ | refine below_go ?_ (by assumption))
  · have hd : decide (a0.size + a2.size + a4.size ≤ 1048576) = false := by simpa using hz
    go_enter Try.func3, Try.ntmps3
    go_wp2_with (first | (go_at_call 4; refine (zzB _ _ _ _ _ _ w0 w2 w4 _).mono ?_; rintro e w' ⟨rfl, rfl⟩) | (go_at_call 5; refine (zzLess _ _ _ _ _).mono ?_; rintro e w' ⟨rfl, hb⟩))
    all_goals go_ret
    all_goals refine ⟨ret_bool (by simp), ?_⟩
    all_goals repeat' (first | exact Below.refl _ _ | refine below_go ?_ (by assumption))

end Go.Proofs.YtkgimmoljmajbaaRR
