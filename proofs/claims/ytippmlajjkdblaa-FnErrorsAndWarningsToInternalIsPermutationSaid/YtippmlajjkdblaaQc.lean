/- zzBytes: where it says true, every length is small (printed by genQc.py). -/
import Derived.Test.YtippmlajjkdblaaQb
namespace Go.Proofs.Ytippmlajjkdblaa
open Go.RowKit
set_option linter.unusedVariables false
set_option linter.unusedSimpArgs false
/-- The bound's verdict: where it says true, every length is small. -/
def BigOk (n n' : Nat) (M M' : Nat → ZM) (e : Ending) : Prop := ∃ r : Bool, e = .returned (.bool r) ∧ (r = true → n ≤ 1048576 ∧ n' ≤ 1048576 ∧ (∀ i, i < n → (M i).Small) ∧ ∀ i, i < n' → (M' i).Small)
set_option maxRecDepth 100000 in
set_option maxHeartbeats 16000000 in
theorem zzBytes (A : Option Addr) (n c : Nat) (M : Nat → ZM) (A' : Option Addr) (n' c' : Nat) (M' : Nat → ZM) (w : World) (h : InMsgs w w.heap.size A n M) (h' : InMsgs w w.heap.size A' n' M') (hn : n ≤ 9223372036854775807) (hn' : n' ≤ 9223372036854775807) :
    Calls Try.prog 4 #[.slice A n c, .slice A' n' c'] w fun e w' => BigOk n n' M M' e ∧ w' = w := by
  have H := Lib.hid h
  have H' := Lib.hid h'
  clear h h'
  go_enter Try.func4, Try.ntmps4
  go_wp2_with fail
  all_goals try (as_aux_lemma => go_ret; exact ⟨⟨false, rfl, fun h => by cases h⟩, rfl⟩)
  have hnb : n ≤ 1048576 := by omega
  go_loopg [5, 6] n (fun q z i wr => ∃ (k s : Nat), k ≤ n ∧ q = n - k ∧ i = .int .i64 k ∧ z = .int .i64 s ∧ s ≤ 1048576 ∧ Hid (wr = w) ∧ Hid (∀ i, i < k → (M i).Small))
  case atStart => exact ⟨0, _, Nat.zero_le _, rfl, rfl, by go_num, by omega, Lib.hid rfl, Lib.hid fun i hi => absurd hi (by omega)⟩
  case round => as_aux_lemma =>
    obtain ⟨k, s, hk, rfl, rfl, rfl, hs, HW, HS⟩ := hrel
    by_cases hkn : k < n
    · have hmm := H.out
      rw [← HW.out] at hmm
      obtain ⟨b, o, hA, hb, hc⟩ := hmm (by omega)
      obtain ⟨c0, c1, c2, k0, k1, k2, ⟨l0, l1, l2, l3, l4, l5, l6, l7, ok⟩, An, cn, c3, hno, hnil, hle, hmx⟩ := hc k hkn
      have HB0 := Lib.hid hb
      have k3 := ok.F
      have k4 := ok.N
      have k5 := ok.T
      have k6 := ok.S
      have r1 : wr.cell? ⟨b, o + k * 12 + 4, none⟩ = _ := l1
      have r2 : wr.cell? ⟨b, o + k * 12 + 5, none⟩ = _ := l2
      have r6 : wr.cell? ⟨b, o + k * 12 + 9, none⟩ = _ := l6
      have r7 : wr.cell? ⟨b, o + k * 12 + 10, none⟩ = _ := l7
      clear hc hmm hno hnil hle hmx l0 l1 l2 l3 l4 l5 l6 l7 ok hb
      subst hA
      obtain ⟨m, hmk⟩ : ∃ m, m = M k := ⟨_, rfl⟩
      rw [← hmk] at c0 c1 c2 c3 k0 k1 k2 k3 k4 k5 k6 r1 r2 r6 r7
      have HMK := Lib.hid hmk
      clear hmk
      go_wp2_with fail
      all_goals try (as_aux_lemma => go_ret; exact ⟨⟨false, rfl, fun h => by cases h⟩, HW.out⟩)
      have HL : Hid (m.I.size ≤ 1048576 ∧ m.G.size ≤ 1048576 ∧ m.X.size ≤ 1048576 ∧ m.L.Small ∧ m.n ≤ 1048576) := Lib.hid ⟨by omega, by omega, by omega, ⟨by omega, by omega, by omega, by omega⟩, by omega⟩
      have hmn : m.n ≤ 1048576 := HL.out.2.2.2.2
      clear c0 c1 c2 r1 r2 r6 r7 k0 k1 k2 k3 k4 k5 k6 c3
      go_loopg [5, 7] m.n (fun q z i wy => ∃ (j s : Nat), j ≤ m.n ∧ q = m.n - j ∧ i = .int .i64 j ∧ z = .int .i64 s ∧ s ≤ 1048576 ∧ Hid (wy = w) ∧ Hid (∀ i, i < j → (m.T i).size ≤ 1048576 ∧ (m.O i).Small))
      case atStart => exact ⟨0, _, Nat.zero_le _, rfl, rfl, by go_num, by omega, HW, Lib.hid fun i hi => absurd hi (by omega)⟩
      case round => as_aux_lemma =>
        obtain ⟨j, s2, hj, rfl, rfl, rfl, hs2, HW, HS2⟩ := hrel
        have hmm := H.out
        rw [← HW.out] at hmm
        obtain ⟨b', o', hA, hb, hc⟩ := hmm (by omega)
        injection hA with hA
        injection hA with hA1 hA2
        subst hA1 hA2
        obtain ⟨_, _, _, _, _, _, _, An, cn, c3, hno, _, _, _⟩ := hc k hkn
        rw [← HMK.out] at c3 hno
        clear hmm hc hb
        by_cases hjn : j < m.n
        · obtain ⟨b2, o2, hA2, hb2, hc2⟩ := hno (by omega)
          obtain ⟨d0, k0, ⟨l0, l1, l2, l3, l4, l5, l6, l7, ok2⟩⟩ := hc2 j hjn
          subst hA2
          have k3 := ok2.F
          have k4 := ok2.N
          have k5 := ok2.T
          have k6 := ok2.S
          have r1 : wr.cell? ⟨b2, o2 + j * 9 + 2, none⟩ = _ := l1
          have r2 : wr.cell? ⟨b2, o2 + j * 9 + 3, none⟩ = _ := l2
          have r6 : wr.cell? ⟨b2, o2 + j * 9 + 7, none⟩ = _ := l6
          have r7 : wr.cell? ⟨b2, o2 + j * 9 + 8, none⟩ = _ := l7
          clear hno hc2 hb2 ok2 l0 l1 l2 l3 l4 l5 l6 l7
          go_wp2_with fail
          all_goals try (as_aux_lemma => go_ret; exact ⟨⟨false, rfl, fun h => by cases h⟩, HW.out⟩)
          have HL2 : Hid ((m.T j).size ≤ 1048576 ∧ (m.O j).Small) := Lib.hid ⟨by omega, ⟨by omega, by omega, by omega, by omega⟩⟩
          go_roundg (m.n - (j + 1))
          case rel =>
            refine ⟨j + 1, _, by omega, rfl, by go_num, by go_num, by omega, HW, Lib.hid fun i hi => ?_⟩
            by_cases hij : i < j
            · exact HS2.out i hij
            · obtain rfl : i = j := by omega
              exact HL2.out
          case measure => omega
        · have hjj : j = m.n := by omega
          clear hno
          subst hjj
          go_wp2_with fail
          go_roundg (n - (k + 1))
          case rel =>
            refine ⟨k + 1, _, by omega, rfl, by go_num, rfl, hs2, HW, Lib.hid fun i hi => ?_⟩
            by_cases hik : i < k
            · exact HS.out i hik
            · obtain rfl : i = k := by omega
              rw [← HMK.out]
              obtain ⟨a1, a2, a3, a4, a5⟩ := HL.out
              exact ⟨a1, a2, a3, a4, a5, fun i hi => (HS2.out i hi).1, fun i hi => (HS2.out i hi).2⟩
          case measure => omega
    · have hkk : k = n := by omega
      subst hkk
      have HS1 := HS
      clear HS
      go_wp2_with fail
      all_goals try (as_aux_lemma => go_ret; exact ⟨⟨false, rfl, fun h => by cases h⟩, HW.out⟩)
      have hnb' : n' ≤ 1048576 := by omega
      go_loopg [5, 8] n' (fun q z i wr => ∃ (k s : Nat), k ≤ n' ∧ q = n' - k ∧ i = .int .i64 k ∧ z = .int .i64 s ∧ s ≤ 1048576 ∧ Hid (wr = w) ∧ Hid (∀ i, i < k → (M' i).Small))
      case atStart => exact ⟨0, _, Nat.zero_le _, rfl, rfl, by go_num, by omega, HW, Lib.hid fun i hi => absurd hi (by omega)⟩
      case round => as_aux_lemma =>
        obtain ⟨k, s, hk, rfl, rfl, rfl, hs, HW, HS⟩ := hrel
        by_cases hkn : k < n'
        · have hmm := H'.out
          rw [← HW.out] at hmm
          obtain ⟨b, o, hA, hb, hc⟩ := hmm (by omega)
          obtain ⟨c0, c1, c2, k0, k1, k2, ⟨l0, l1, l2, l3, l4, l5, l6, l7, ok⟩, An, cn, c3, hno, hnil, hle, hmx⟩ := hc k hkn
          have HB0 := Lib.hid hb
          have k3 := ok.F
          have k4 := ok.N
          have k5 := ok.T
          have k6 := ok.S
          have r1 : wr.cell? ⟨b, o + k * 12 + 4, none⟩ = _ := l1
          have r2 : wr.cell? ⟨b, o + k * 12 + 5, none⟩ = _ := l2
          have r6 : wr.cell? ⟨b, o + k * 12 + 9, none⟩ = _ := l6
          have r7 : wr.cell? ⟨b, o + k * 12 + 10, none⟩ = _ := l7
          clear hc hmm hno hnil hle hmx l0 l1 l2 l3 l4 l5 l6 l7 ok hb
          subst hA
          obtain ⟨m, hmk⟩ : ∃ m, m = M' k := ⟨_, rfl⟩
          rw [← hmk] at c0 c1 c2 c3 k0 k1 k2 k3 k4 k5 k6 r1 r2 r6 r7
          have HMK := Lib.hid hmk
          clear hmk
          go_wp2_with fail
          all_goals try (as_aux_lemma => go_ret; exact ⟨⟨false, rfl, fun h => by cases h⟩, HW.out⟩)
          have HL : Hid (m.I.size ≤ 1048576 ∧ m.G.size ≤ 1048576 ∧ m.X.size ≤ 1048576 ∧ m.L.Small ∧ m.n ≤ 1048576) := Lib.hid ⟨by omega, by omega, by omega, ⟨by omega, by omega, by omega, by omega⟩, by omega⟩
          have hmn : m.n ≤ 1048576 := HL.out.2.2.2.2
          clear c0 c1 c2 r1 r2 r6 r7 k0 k1 k2 k3 k4 k5 k6 c3
          go_loopg [5, 9] m.n (fun q z i wy => ∃ (j s : Nat), j ≤ m.n ∧ q = m.n - j ∧ i = .int .i64 j ∧ z = .int .i64 s ∧ s ≤ 1048576 ∧ Hid (wy = w) ∧ Hid (∀ i, i < j → (m.T i).size ≤ 1048576 ∧ (m.O i).Small))
          case atStart => exact ⟨0, _, Nat.zero_le _, rfl, rfl, by go_num, by omega, HW, Lib.hid fun i hi => absurd hi (by omega)⟩
          case round => as_aux_lemma =>
            obtain ⟨j, s2, hj, rfl, rfl, rfl, hs2, HW, HS2⟩ := hrel
            have hmm := H'.out
            rw [← HW.out] at hmm
            obtain ⟨b', o', hA, hb, hc⟩ := hmm (by omega)
            injection hA with hA
            injection hA with hA1 hA2
            subst hA1 hA2
            obtain ⟨_, _, _, _, _, _, _, An, cn, c3, hno, _, _, _⟩ := hc k hkn
            rw [← HMK.out] at c3 hno
            clear hmm hc hb
            by_cases hjn : j < m.n
            · obtain ⟨b2, o2, hA2, hb2, hc2⟩ := hno (by omega)
              obtain ⟨d0, k0, ⟨l0, l1, l2, l3, l4, l5, l6, l7, ok2⟩⟩ := hc2 j hjn
              subst hA2
              have k3 := ok2.F
              have k4 := ok2.N
              have k5 := ok2.T
              have k6 := ok2.S
              have r1 : wr.cell? ⟨b2, o2 + j * 9 + 2, none⟩ = _ := l1
              have r2 : wr.cell? ⟨b2, o2 + j * 9 + 3, none⟩ = _ := l2
              have r6 : wr.cell? ⟨b2, o2 + j * 9 + 7, none⟩ = _ := l6
              have r7 : wr.cell? ⟨b2, o2 + j * 9 + 8, none⟩ = _ := l7
              clear hno hc2 hb2 ok2 l0 l1 l2 l3 l4 l5 l6 l7
              go_wp2_with fail
              all_goals try (as_aux_lemma => go_ret; exact ⟨⟨false, rfl, fun h => by cases h⟩, HW.out⟩)
              have HL2 : Hid ((m.T j).size ≤ 1048576 ∧ (m.O j).Small) := Lib.hid ⟨by omega, ⟨by omega, by omega, by omega, by omega⟩⟩
              go_roundg (m.n - (j + 1))
              case rel =>
                refine ⟨j + 1, _, by omega, rfl, by go_num, by go_num, by omega, HW, Lib.hid fun i hi => ?_⟩
                by_cases hij : i < j
                · exact HS2.out i hij
                · obtain rfl : i = j := by omega
                  exact HL2.out
              case measure => omega
            · have hjj : j = m.n := by omega
              clear hno
              subst hjj
              go_wp2_with fail
              go_roundg (n' - (k + 1))
              case rel =>
                refine ⟨k + 1, _, by omega, rfl, by go_num, rfl, hs2, HW, Lib.hid fun i hi => ?_⟩
                by_cases hik : i < k
                · exact HS.out i hik
                · obtain rfl : i = k := by omega
                  rw [← HMK.out]
                  obtain ⟨a1, a2, a3, a4, a5⟩ := HL.out
                  exact ⟨a1, a2, a3, a4, a5, fun i hi => (HS2.out i hi).1, fun i hi => (HS2.out i hi).2⟩
              case measure => omega
        · have hkk : k = n' := by omega
          subst hkk
          go_wp2_with fail
          go_ret
          exact ⟨⟨true, rfl, fun _ => ⟨hnb, hnb', HS1.out, HS.out⟩⟩, HW.out⟩
end Go.Proofs.Ytippmlajjkdblaa
