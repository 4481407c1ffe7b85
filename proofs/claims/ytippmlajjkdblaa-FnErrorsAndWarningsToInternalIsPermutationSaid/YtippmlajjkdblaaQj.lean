/- msgEq (printed by genQj.py). -/
import Derived.Test.YtippmlajjkdblaaQi
namespace Go.Proofs.Ytippmlajjkdblaa
open Go.RowKit
set_option linter.unusedVariables false
set_option linter.unusedSimpArgs false
/-- Two messages say the same. -/
noncomputable def eqM (m m' : MsgR) : Bool := open Classical in decide (m.id = m'.id ∧ m.plugin.toList = m'.plugin.toList ∧ m.kind = m'.kind ∧ m.text.toList = m'.text.toList ∧ eqO m.loc m'.loc = true ∧ m.n = m'.n ∧ ∀ j, j < m.n → (m.T j).toList = (m'.T j).toList ∧ eqO (m.O j) (m'.O j) = true)
/-- What a group of cells holds, as a value. -/
abbrev gval (q : Grp) : Value := .agg #[.slice q.A q.n q.c, .string q.p, .nilIface, locv q.l, .string q.t, .bool false, .int .u8 q.kind, .int .u8 q.id]
theorem IsRaw.below {w w' : World} {Z : Nat → Prop} {l : Option Nat} {o : Option LocA} (h : IsRaw w Z l o) (hb : Below w.heap.size w w') : IsRaw w' Z l o := h.keep (fun _ h _ => h) (fun g _ hg => hb.block g hg) hb.size
set_option maxRecDepth 100000 in
set_option maxHeartbeats 16000000 in
theorem msgEq (q q' : Grp) (Z Z' : Nat → Prop) (m m' : MsgR) (w : World) (h : IsG w Z q m) (h' : IsG w Z' q' m') :
    Calls Try.prog 10 #[gval q, gval q'] w fun e w' => e = .returned (.bool (eqM m m')) ∧ Below w.heap.size w w' := by
  obtain ⟨A, k, c, p, l, t, kind, id⟩ := q
  obtain ⟨A', k', c', p', l', t', kind', id'⟩ := q'
  obtain ⟨plugin, text, o, n, T, O, kd, ix⟩ := m
  obtain ⟨plugin', text', o', n', T', O', kd', ix'⟩ := m'
  obtain ⟨e1, e2, e3, e4, hle, ⟨e5, hno⟩, hl⟩ := h
  obtain ⟨e1', e2', e3', e4', hle', ⟨e5', hno'⟩, hl'⟩ := h'
  simp only at e1 e2 e3 e4 e5 e1' e2' e3' e4' e5' hno hno' hl hl' hle hle'
  subst e1 e2 e3 e4 e5 e1' e2' e3' e4' e5'
  have hb2 : ∀ o o' : Obj, Below w.heap.size w ((w.alloc o).alloc o') := fun o o' => ((Below.refl _ _).alloc (Nat.le_refl _) o).alloc (by simp) o'
  have HL := Lib.hid hl
  have HL' := Lib.hid hl'
  have HNO := Lib.hid hno
  have HNO' := Lib.hid hno'
  clear hl hl' hno hno'
  have hnil := fun w A n c => Lib.run_eql_slice_nil (P := Try.prog) w 33 36 A n c 0 0 Try.underlying33
  by_cases h1 : id = id'
  case neg =>
    go_enter Try.func10, Try.ntmps10
    go_wp2_with fail
    all_goals go_ret
    all_goals exact ⟨ret_boolv (decide_eq_false (fun h => h1 h.1)), hb2 _ _⟩
  case pos =>
    subst h1
    cases h2 : (p.toList == p'.toList)
    · go_enter Try.func10, Try.ntmps10
      go_wp2_with fail
      all_goals go_ret
      all_goals exact ⟨ret_boolv (decide_eq_false (fun h => by have := beq_eq_false_iff_ne.1 h2; exact this h.2.1)), hb2 _ _⟩
    · by_cases h3 : kind = kind'
      case neg =>
        go_enter Try.func10, Try.ntmps10
        go_wp2_with fail
        all_goals go_ret
        all_goals exact ⟨ret_boolv (decide_eq_false (fun h => h3 h.2.2.1)), hb2 _ _⟩
      case pos =>
        subst h3
        cases h4 : (t.toList == t'.toList)
        · go_enter Try.func10, Try.ntmps10
          go_wp2_with fail
          all_goals go_ret
          all_goals exact ⟨ret_boolv (decide_eq_false (fun h => by have := beq_eq_false_iff_ne.1 h4; exact this h.2.2.2.1)), hb2 _ _⟩
        · cases h5 : eqO o o'
          · go_enter Try.func10, Try.ntmps10
            go_wp2_with (go_at_call 15; refine (locEq l l' Z Z' o o' _ ?hx ?hy).mono ?_; (case hx => exact HL.out.keep (fun _ h _ => h) (fun g _ hg => (hb2 _ _).block g hg) (hb2 _ _).size); (case hy => exact HL'.out.keep (fun _ h _ => h) (fun g _ hg => (hb2 _ _).block g hg) (hb2 _ _).size); rintro e w1 ⟨rfl, nd, rfl⟩)
            all_goals go_ret
            all_goals exact ⟨ret_boolv (decide_eq_false (fun h => by have h6 : eqO o o' = true := h.2.2.2.2.1; rw [h5] at h6; cases h6)), below_drewN (hb2 _ _) _⟩
          · have H2 := Lib.hid (eq_of_beq h2)
            have H4 := Lib.hid (eq_of_beq h4)
            rcases HNO.out with ⟨hz, rfl, rfl⟩ | ⟨hpos, g, rfl, hg, hlt, hc⟩ <;> rcases HNO'.out with ⟨hz', rfl, rfl⟩ | ⟨hpos', g', rfl, hg', hlt', hc'⟩
            · subst hz hz'
              go_enter Try.func10, Try.ntmps10
              go_wp2_with (go_at_call 15; refine (locEq l l' Z Z' o o' _ ?hx ?hy).mono ?_; (case hx => exact HL.out.keep (fun _ h _ => h) (fun g _ hg => (hb2 _ _).block g hg) (hb2 _ _).size); (case hy => exact HL'.out.keep (fun _ h _ => h) (fun g _ hg => (hb2 _ _).block g hg) (hb2 _ _).size); rintro e w1 ⟨rfl, nd, rfl⟩)
              go_quiet (fail)
              go_wp2_with fail
              go_loopg [5] 0 (fun q i wr => i = .int .i64 0 ∧ Below w.heap.size w wr ∧ wr.cell? ⟨w.heap.size, 0, none⟩ = some (.slice none 0 0))
              case atStart => exact ⟨rfl, below_drewN (hb2 _ _) _, by go_simp⟩
              case round =>
                obtain ⟨rfl, hb, hcl⟩ := hrel
                have HB := Lib.hid hb
                clear hb
                go_wp2_with fail
                go_ret
                exact ⟨ret_boolv (decide_eq_true ⟨rfl, H2.out, rfl, H4.out, h5, rfl, fun j hj => absurd hj (Nat.not_lt_zero j)⟩), HB.out⟩
            · subst hz
              go_enter Try.func10, Try.ntmps10
              go_wp2_with (go_at_call 15; refine (locEq l l' Z Z' o o' _ ?hx ?hy).mono ?_; (case hx => exact HL.out.keep (fun _ h _ => h) (fun g _ hg => (hb2 _ _).block g hg) (hb2 _ _).size); (case hy => exact HL'.out.keep (fun _ h _ => h) (fun g _ hg => (hb2 _ _).block g hg) (hb2 _ _).size); rintro e w1 ⟨rfl, nd, rfl⟩)
              go_quiet (fail)
              go_wp2_with fail
              all_goals go_ret
              all_goals exact ⟨ret_boolv (decide_eq_false (fun h => by have h6 : (0 : Nat) = k' := h.2.2.2.2.2.1; omega)), below_drewN (hb2 _ _) _⟩
            · subst hz'
              go_enter Try.func10, Try.ntmps10
              go_wp2_with (go_at_call 15; refine (locEq l l' Z Z' o o' _ ?hx ?hy).mono ?_; (case hx => exact HL.out.keep (fun _ h _ => h) (fun g _ hg => (hb2 _ _).block g hg) (hb2 _ _).size); (case hy => exact HL'.out.keep (fun _ h _ => h) (fun g _ hg => (hb2 _ _).block g hg) (hb2 _ _).size); rintro e w1 ⟨rfl, nd, rfl⟩)
              go_quiet (fail)
              go_wp2_with fail
              all_goals go_ret
              all_goals exact ⟨ret_boolv (decide_eq_false (fun h => by have h6 : k = 0 := h.2.2.2.2.2.1; omega)), below_drewN (hb2 _ _) _⟩
            · by_cases hkk : k = k'
              case neg =>
                have hki : ¬ (k : Int) = (k' : Int) := by omega
                go_enter Try.func10, Try.ntmps10
                go_wp2_with (go_at_call 15; refine (locEq l l' Z Z' o o' _ ?hx ?hy).mono ?_; (case hx => exact HL.out.keep (fun _ h _ => h) (fun g _ hg => (hb2 _ _).block g hg) (hb2 _ _).size); (case hy => exact HL'.out.keep (fun _ h _ => h) (fun g _ hg => (hb2 _ _).block g hg) (hb2 _ _).size); rintro e w1 ⟨rfl, nd, rfl⟩)
                go_quiet (fail)
                go_wp2_with fail
                all_goals go_ret
                all_goals exact ⟨ret_boolv (decide_eq_false (fun h => by have h6 : k = k' := h.2.2.2.2.2.1; omega)), below_drewN (hb2 _ _) _⟩
              case pos =>
                subst hkk
                have HC := Lib.hid hc
                have HC' := Lib.hid hc'
                clear hc hc'
                go_enter Try.func10, Try.ntmps10
                go_wp2_with (go_at_call 15; refine (locEq l l' Z Z' o o' _ ?hx ?hy).mono ?_; (case hx => exact HL.out.keep (fun _ h _ => h) (fun g _ hg => (hb2 _ _).block g hg) (hb2 _ _).size); (case hy => exact HL'.out.keep (fun _ h _ => h) (fun g _ hg => (hb2 _ _).block g hg) (hb2 _ _).size); rintro e w1 ⟨rfl, nd, rfl⟩)
                go_quiet (fail)
                go_wp2_with fail
                go_loopg [5] k (fun q i wr => ∃ j : Nat, j ≤ k ∧ q = k - j ∧ i = .int .i64 j ∧ Hid (∀ x, x < j → (T x).toList = (T' x).toList ∧ eqO (O x) (O' x) = true) ∧ Hid (Below w.heap.size w wr) ∧ wr.cell? ⟨w.heap.size, 0, none⟩ = some (.slice (some ⟨g, 0, none⟩) k c) ∧ wr.cell? ⟨w.heap.size + 1, 0, none⟩ = some (.slice (some ⟨g', 0, none⟩) k c'))
                case atStart => exact ⟨0, Nat.zero_le _, rfl, rfl, Lib.hid fun x hx => absurd hx (by omega), Lib.hid (below_drewN (hb2 _ _) _), by go_simp, by go_simp⟩
                case round =>
                  obtain ⟨j, hj, rfl, rfl, HS, HB, hcl, hcl'⟩ := hrel
                  by_cases hjn : j < k
                  · obtain ⟨_, t2, _, lj, t1, il⟩ := HC.out j hjn
                    obtain ⟨_, t2', _, lj', t1', il'⟩ := HC'.out j hjn
                    have a1 := (HB.out.cell (p := ⟨g, j * 4 + 1, none⟩) hlt).trans t1
                    have a2 := (HB.out.cell (p := ⟨g, j * 4 + 2, none⟩) hlt).trans t2
                    have b1 := (HB.out.cell (p := ⟨g', j * 4 + 1, none⟩) hlt').trans t1'
                    have b2 := (HB.out.cell (p := ⟨g', j * 4 + 2, none⟩) hlt').trans t2'
                    have IL := Lib.hid (il.below HB.out)
                    have IL' := Lib.hid (il'.below HB.out)
                    clear t1 t2 t1' t2' il il'
                    cases hT : ((T j).toList == (T' j).toList)
                    · go_wp2_with fail
                      go_quiet (fail)
                      go_wp2_with fail
                      all_goals go_ret
                      all_goals exact ⟨ret_boolv (decide_eq_false (fun h => beq_eq_false_iff_ne.1 hT (h.2.2.2.2.2.2 j hjn).1)), below_drewN HB.out _⟩
                    · cases hO : eqO (O j) (O' j)
                      · go_wp2_with fail
                        go_quiet ((go_at_call 15; exact Calls.quiet_of (locEq lj lj' Z Z' _ _ _ (IL.out.keep (fun _ h _ => h) (fun _ _ _ => rfl) (Nat.le_refl _)) (IL'.out.keep (fun _ h _ => h) (fun _ _ _ => rfl) (Nat.le_refl _)))))
                        go_wp2_with fail
                        all_goals go_ret
                        all_goals exact ⟨ret_boolv (decide_eq_false (fun h => by have h6 : eqO (O j) (O' j) = true := (h.2.2.2.2.2.2 j hjn).2; rw [hO] at h6; cases h6)), below_drewN HB.out _⟩
                      · go_wp2_with fail
                        go_quiet ((go_at_call 15; exact Calls.quiet_of (locEq lj lj' Z Z' _ _ _ (IL.out.keep (fun _ h _ => h) (fun _ _ _ => rfl) (Nat.le_refl _)) (IL'.out.keep (fun _ h _ => h) (fun _ _ _ => rfl) (Nat.le_refl _)))))
                        go_wp2_with fail
                        go_roundg (k - (j + 1))
                        case rel =>
                          refine ⟨j + 1, by omega, rfl, by go_num, Lib.hid fun x hx => ?_, Lib.hid (below_drewN HB.out _), hcl, hcl'⟩
                          by_cases hxj : x < j
                          · exact HS.out x hxj
                          · obtain rfl : x = j := by omega
                            exact ⟨eq_of_beq hT, hO⟩
                        case measure => omega
                  · have hjj : j = k := by omega
                    subst hjj
                    go_wp2_with fail
                    go_ret
                    exact ⟨ret_boolv (decide_eq_true ⟨rfl, H2.out, rfl, H4.out, h5, rfl, HS.out⟩), HB.out⟩
end Go.Proofs.Ytippmlajjkdblaa
