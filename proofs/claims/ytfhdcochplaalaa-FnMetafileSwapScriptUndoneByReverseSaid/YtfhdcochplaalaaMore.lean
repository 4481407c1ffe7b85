/- The walks of the helpers of metafileArray's laws. -/
import Derived.Test.YtfhdcochplaalaaCommon
import Derived.Test.YtfhdcochplaalaaWalks
import Derived.Deep.RegionWith
namespace Go.Proofs.Ytfhdcochplaalaa
open Go.RowKit
set_option linter.unusedVariables false
set_option linter.unusedSimpArgs false

def SomeBytes (n : Nat) (w : World) (e : Ending) (w' : World) : Prop := ∃ r : Int, e = .returned (.int .i64 r) ∧ w = w' ∧ 0 ≤ r ∧ r ≤ 1048577 ∧ (r ≤ 1048576 → 16 * (n : Int) ≤ r)
theorem strBytes (A : Option Addr) (n c : Nat) (f : Nat → ByteArray) (w : World) (h : InStrs w A n c f) (hn : n + tot f n ≤ 1048576) : Calls Try.prog 6 #[.slice A n c] w (SomeBytes n w) := by
  have H := Lib.hid h
  clear h
  go_enter Try.func6, Try.ntmps6
  go_wp2_with fail
  go_loopg [3, 4] n (fun g s z wr => w = wr ∧ ∃ k T : Nat, k ≤ n ∧ g = n - k ∧ s = .int .i64 (T : Int) ∧ T ≤ 16 * n + tot f k ∧ 16 * n ≤ T ∧ (0 < k → T ≤ 1048576) ∧ z = .int .i64 k)
  case atStart => exact ⟨rfl, 0, 16 * n, Nat.zero_le _, rfl, by go_num, by simp [tot], Nat.le_refl _, fun h => absurd h (by omega), rfl⟩
  case round =>
    obtain ⟨rfl, k, T, hk, rfl, rfl, hT, hT2, hT3, rfl⟩ := hrel
    have H3 := Lib.hid hT3
    clear hT3
    have hmon := tot_mono f hk
    by_cases hlt : k < n
    · obtain ⟨b, o, rfl, hb, hc⟩ := H.out.row.at_ hlt
      have ht := tot_at f hlt
      by_cases g2 : T + (f k).size ≤ 1048576
      · go_wp2_with fail
        go_roundg (n - (k + 1))
        case rel => exact ⟨rfl, k + 1, T + (f k).size, by omega, rfl, by go_num, by simp only [tot]; omega, by omega, fun _ => g2, by go_num⟩
        case measure => omega
      · go_wp2_with fail
        go_ret
        exact ⟨_, rfl, rfl, by omega, by omega, fun h => absurd h (by omega)⟩
    · go_wp2_with fail
      go_ret
      refine ⟨_, rfl, rfl, by omega, ?_, by omega⟩
      rcases Nat.eq_zero_or_pos k with h0 | h0
      · omega
      · have := H3.out h0; omega
theorem intBytes (A : Option Addr) (n c : Nat) (w : World) (hn : n ≤ 1048576) : Calls Try.prog 7 #[.slice A n c] w fun e w' => e = .returned (.int .i64 (8 * (n : Int))) ∧ w = w' := by
  go_enter Try.func7, Try.ntmps7
  go_wp2
  go_ret
  exact ⟨rfl, rfl⟩
def sizeAt (m : Nat) (fs : Nat → Int) (k : Nat) : Int := if k < m then fs k else k
theorem sizeAt_any (A : Option Addr) (m c k : Nat) (fs : Nat → Int) (B : Nat) (w : World) (h : RowF w B A m (fun i => .int .i64 (fs i))) (hk : k ≤ 1048576) (hm : m ≤ 1048576) :
    Calls Try.prog 18 #[.slice A m c, .int .i64 k] w fun e w' => e = .returned (.int .i64 (sizeAt m fs k)) ∧ w = w' := by
  by_cases hlt : k < m
  · obtain ⟨b, o, rfl, hb, hc⟩ := h.at_ hlt
    have hs := Lib.hid (show sizeAt m fs k = fs k by unfold sizeAt; rw [if_pos hlt])
    clear h
    go_enter Try.func18, Try.ntmps18
    go_wp2
    go_ret
    exact ⟨by rw [hs.out]; rfl, rfl⟩
  · have hs := Lib.hid (show sizeAt m fs k = k by unfold sizeAt; rw [if_neg hlt])
    clear h
    go_enter Try.func18, Try.ntmps18
    go_wp2
    go_ret
    exact ⟨by rw [hs.out]; rfl, rfl⟩
theorem makeArr (n : Nat) (hn : n ≤ 1048576) (w : World) : Calls Try.prog 19 #[.int .i64 n] w fun e w' => e = .returned (.slice (some ⟨w.heap.size, 0, none⟩) n n) ∧ Row4 w' w.heap.size n (fun _ => ⟨#[]⟩) (fun _ => 0) ∧ Below w.heap.size w w' ∧ w'.heap.size = w.heap.size + 1 := by
  obtain ⟨i0, hi, hz0, hz1, hz2⟩ := info_parts Try.info45
  have hmk := run_make (P := Try.prog) (w := w) 30 45 i0 _ Try.underlying30 hi hz0 .i64 .i64 n n (by omega) (by omega) (by rw [hz2]; omega) (by omega)
  rw [hz1] at hmk
  go_enter Try.func19, Try.ntmps19
  go_wp2
  go_ret
  have hr := World.rowIs_alloc w (madeCells #[.string ⟨#[]⟩, .string ⟨#[]⟩, .slice none 0 0, .int .i64 0] (n * 4)) 45 (ent (fun _ => ⟨#[]⟩) (fun _ => 0)) (fun i hi => by
    rw [size_madeCells] at hi
    have hlt : i % 4 < 4 := Nat.mod_lt _ (by omega)
    simp only [madeCells, Array.getElem?_map, Array.getElem?_range, hi, if_true, Option.map_some]
    rcases (show i % 4 = 0 ∨ i % 4 = 1 ∨ i % 4 = 2 ∨ i % 4 = 3 by omega) with h | h | h | h <;> simp [ent, h])
  rw [size_madeCells] at hr
  exact ⟨rfl, hr, (Below.refl _ _).alloc (Nat.le_refl _) _, by simp⟩
theorem nameAt (g n i : Nat) (nm : Nat → ByteArray) (sz : Nat → Int) (hi : i < n) (hn : n ≤ 1048576) (w : World) (h : Row4 w g n nm sz) :
    Calls Try.prog 16 #[.slice (some ⟨g, 0, none⟩) n n, .int .i64 i] w fun e w' => e = .returned (.string (nm i)) ∧ w = w' := by
  obtain ⟨c0, c1, c2, c3⟩ := h.cells hi
  clear h
  go_enter Try.func16, Try.ntmps16
  go_wp2
  go_ret
  exact ⟨rfl, rfl⟩
theorem sizeOf_ (g n i : Nat) (nm : Nat → ByteArray) (sz : Nat → Int) (hi : i < n) (hn : n ≤ 1048576) (w : World) (h : Row4 w g n nm sz) :
    Calls Try.prog 17 #[.slice (some ⟨g, 0, none⟩) n n, .int .i64 i] w fun e w' => e = .returned (.int .i64 (sz i)) ∧ w = w' := by
  obtain ⟨c0, c1, c2, c3⟩ := h.cells hi
  have c3' : w.cell? ⟨g, i * 4 + 3, none⟩ = some (.int .i64 (sz i)) := c3
  clear h c3
  go_enter Try.func17, Try.ntmps17
  go_wp2
  go_ret
  exact ⟨rfl, rfl⟩
theorem lenOf (g n : Nat) (w : World) : Calls Try.prog 15 #[.slice (some ⟨g, 0, none⟩) n n] w fun e w' => e = .returned (.int .i64 n) ∧ w = w' := by
  go_enter Try.func15, Try.ntmps15
  go_wp2
  go_ret
  exact ⟨rfl, rfl⟩
theorem zzSwap (g n i j : Nat) (nm : Nat → ByteArray) (sz : Nat → Int) (hi : i < n) (hj : j < n) (hn : n ≤ 1048576) (w : World) (h : Row4 w g n nm sz) :
    Calls Try.prog 11 #[.slice (some ⟨g, 0, none⟩) n n, .int .i64 i, .int .i64 j] w (SwapPost g n (sw nm i j) (sw sz i j) w) := by
  have H := Lib.hid h
  clear h
  go_enter Try.func11, Try.ntmps11
  go_wp2_with (go_at_call 21; refine (swap g n i j nm sz hi hj hn _ H.out).mono ?_; rintro e w' ⟨rfl, h1, h2⟩)
  go_end0
  exact ⟨rfl, h1, h2⟩

def idx (x : Int) (n : Nat) : Nat := (x % (n : Int)).toNat
theorem idx_lt (x : Int) {n : Nat} (hn : 0 < n) : idx x n < n := by
  unfold idx
  have h1 := Int.emod_nonneg x (b := (n : Int)) (by omega)
  have h2 := Int.emod_lt_of_pos x (b := (n : Int)) (by omega)
  omega
theorem idx_eq (x : Int) {n : Nat} (hn : 0 < n) : (x.tmod (n : Int) + (n : Int)) % (n : Int) = (idx x n : Int) := by
  have h1 := Int.emod_nonneg x (b := (n : Int)) (by omega)
  unfold idx
  rw [Int.toNat_of_nonneg h1, Int.add_emod_right, Int.tmod_def, Int.sub_mul_emod_self_left]
theorem index_any (x : Int) (n : Nat) (hn : 0 < n) (hn2 : n ≤ 1048576) (w : World) : Calls Try.prog 12 #[.int .i64 x, .int .i64 n] w fun e w' => e = .returned (.int .i64 (idx x n)) ∧ w = w' := by
  have h1 := Int.lt_tmod_of_pos x (b := (n : Int)) (by omega)
  have h2 := Int.tmod_lt_of_pos x (b := (n : Int)) (by omega)
  have he := Lib.hid (idx_eq x hn)
  have hn0 : ((n : Int) == 0) = false := by simp; omega
  go_enter Try.func12, Try.ntmps12
  go_wp2
  go_ret
  exact ⟨by rw [← he.out]; rfl, rfl⟩

/-- An array that is built: its block, new; the names and the sizes. -/
def Built (n : Nat) (nm : Nat → ByteArray) (sz : Nat → Int) (w : World) (e : Ending) (w' : World) : Prop :=
  ∃ g, e = .returned (.slice (some ⟨g, 0, none⟩) n n) ∧ w.heap.size ≤ g ∧ Row4 w' g n nm sz ∧ Below w.heap.size w w'
theorem buildArr (A : Option Addr) (n c : Nat) (f : Nat → ByteArray) (A' : Option Addr) (m d : Nat) (fs : Nat → Int) (w : World) (h : RowF w w.heap.size A n (fun i => .string (f i))) (h' : RowF w w.heap.size A' m (fun i => .int .i64 (fs i)))
    (hn : n ≤ 1048576) (hm : m ≤ 1048576) : Calls Try.prog 10 #[.slice A n c, .slice A' m d] w (Built n f (sizeAt m fs) w) := by
  have H := Lib.hid h
  have H' := Lib.hid h'
  clear h h'
  go_enter Try.func10, Try.ntmps10
  go_wp2_with (go_at_call 19; refine (makeArr n hn _).mono ?_; rintro e w1 ⟨rfl, hr, hb, hs⟩)
  have HR := Lib.hid hr
  have HB := Lib.hid hb
  clear hr hb hs
  go_loopg [6] n (fun g i wr => ∃ k : Nat, k ≤ n ∧ g = n - k ∧ i = .int .i64 k ∧ Row4 wr w.heap.size n (fun j => if j < k then f j else ⟨#[]⟩) (fun j => if j < k then sizeAt m fs j else 0) ∧ Below w.heap.size w wr)
  case atStart => exact ⟨0, Nat.zero_le _, rfl, rfl, HR.out.congr fun q _ => ent_congr (fun k => by simp) (fun k => by simp) q, HB.out⟩
  case round =>
    obtain ⟨k, hk, rfl, rfl, hr, hb⟩ := hrel
    clear HR HB
    by_cases hlt : k < n
    · obtain ⟨b, o, rfl, hbb, hc⟩ := H.out.at_ hlt
      have hc' : wr.cell? ⟨b, o + k, none⟩ = some (.string (f k)) := (hb.cell (p := ⟨b, o + k, none⟩) hbb).trans hc
      have HR := Lib.hid hr
      have HB := Lib.hid hb
      have HF := Lib.hid (H'.out.below hb)
      clear hr hb hc
      go_wp2_with fail
      go_region_with (first
        | (go_at_call 18; refine (sizeAt_any _ _ _ k fs _ _ (by exact HF.out) (by omega) hm).mono ?_; rintro e w' ⟨rfl, rfl⟩)
        | (go_at_call 20; refine (setEntry _ _ k _ _ _ _ hlt hn _ (by exact HR.out)).mono ?_; rintro e wx ⟨rfl, h1, h2⟩))
      all_goals
        have H1 := Lib.hid h1
        have H2 := Lib.hid h2
        clear h1 h2
        go_wp2_with fail
        go_roundg (n - (k + 1))
        case rel =>
          refine ⟨k + 1, by omega, rfl, by go_num, H1.out.congr fun q _ => ent_congr (fun j => ?_) (fun j => ?_) q, HB.out.trans (below_of_only (only_of_drew H2.out) HB.out.size (Nat.le_refl _))⟩
          · by_cases e1 : j = k
            · subst e1; simp
            · by_cases e2 : j < k
              · simp [e1, e2, show j < k + 1 by omega]
              · simp [e1, e2, show ¬ j < k + 1 by omega]
          · by_cases e1 : j = k
            · subst e1; simp
            · by_cases e2 : j < k
              · simp [e1, e2, show j < k + 1 by omega]
              · simp [e1, e2, show ¬ j < k + 1 by omega]
        case measure => omega
    · have HR := Lib.hid hr
      have HB := Lib.hid hb
      clear hr hb
      go_wp2_with fail
      go_ret
      have hkn : k = n := by omega
      refine ⟨_, rfl, Nat.le_refl _, HR.out.congr fun q hq => ?_, HB.out⟩
      have hq4 : q / 4 < k := by omega
      unfold ent
      simp [hq4]

theorem quiet_l {P : Program} {f : FuncId} {args : Array Value} {w : World} {n : Nat} {v : Value} (h : Calls P f args (w.drewN n) fun e w' => e = .returned v ∧ w.drewN n = w') :
    Calls P f args (w.drewN n) fun e w'' => e = .returned v ∧ ∃ m, w'' = w.drewN m := h.mono fun _ _ ⟨he, hm⟩ => ⟨he, n, hm.symm⟩
def TrueNow (B : Nat) (w : World) (e : Ending) (w' : World) : Prop := e = .returned (.bool true) ∧ Below B w w'
theorem isInput (g : Nat) (A : Option Addr) (n c : Nat) (f : Nat → ByteArray) (A' : Option Addr) (m d : Nat) (fs : Nat → Int) (B : Nat) (w : World) (h : RowF w B A n (fun i => .string (f i))) (h' : RowF w B A' m (fun i => .int .i64 (fs i)))
    (hr : Row4 w g n f (sizeAt m fs)) (hn : n ≤ 1048576) (hm : m ≤ 1048576) : Calls Try.prog 13 #[.slice (some ⟨g, 0, none⟩) n n, .slice A n c, .slice A' m d] w (TrueNow w.heap.size w) := by
  have H := Lib.hid h
  have H' := Lib.hid h'
  have HR := Lib.hid hr
  clear h h' hr
  go_enter Try.func13, Try.ntmps13
  go_wp2_with fail
  go_loopg [7] n (fun g i wr => ∃ (k q : Nat), k ≤ n ∧ g = n - k ∧ i = .int .i64 k ∧ wr = w.drewN q)
  case atStart => exact ⟨0, 0, Nat.zero_le _, rfl, rfl, rfl⟩
  case round =>
    obtain ⟨k, q, hk, rfl, rfl, rfl⟩ := hrel
    by_cases hlt : k < n
    · obtain ⟨b, o, rfl, hbb, hc⟩ := H.out.at_ hlt
      go_wp2_with fail
      generalize hw : w.drewN q = w0
      have H'' : Hid (RowF w0 B A' m (fun i => .int .i64 (fs i))) := Lib.hid (by rw [← hw]; exact H'.out)
      have HR' : Hid (Row4 w0 g n f (sizeAt m fs)) := Lib.hid (by rw [← hw]; exact HR.out)
      have hc' : w0.cell? ⟨b, o + k, none⟩ = some (.string (f k)) := by rw [← hw]; exact hc
      have HW := Lib.hid hw
      clear hw hc
      go_quiet ((first
        | (go_at_call 16; exact quiet_l (nameAt _ _ k f (sizeAt m fs) hlt hn _ (by exact HR'.out)))
        | (go_at_call 17; exact quiet_l (sizeOf_ _ _ k f (sizeAt m fs) hlt hn _ (by exact HR'.out)))
        | (go_at_call 18; exact quiet_l (sizeAt_any _ _ _ k fs _ _ (by exact H''.out) (by omega) hm))))
      go_wp2_with fail
      go_roundg (n - (k + 1))
      case rel => exact ⟨k + 1, _, by omega, rfl, by go_num, by rw [← HW.out, World.drewN_drewN]⟩
      case measure => omega
    · go_wp2_with fail
      go_ret
      exact ⟨rfl, below_drewN' (Below.refl _ _) _⟩
end Go.Proofs.Ytfhdcochplaalaa
