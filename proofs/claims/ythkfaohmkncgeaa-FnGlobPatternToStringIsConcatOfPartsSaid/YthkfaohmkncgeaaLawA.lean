/- The walk of the law FnGlobPatternToStringIsConcatOfParts. -/
import Derived.Test.YthkfaohmkncgeaaWalks
import Derived.IntWalk
namespace Go.Proofs.Ythkfaohmkncgeaa
open Go.RowKit
set_option linter.unusedVariables false
set_option linter.unusedSimpArgs false

theorem decB {p : Prop} [Decidable p] (v : Bool) (h : decide p = v) {P : Program} {F : FuncId} {args : Array Value} {w : World} (c : Calls P F args w fun e w' => e = .returned (.bool (decide p)) ∧ w = w') :
    Calls P F args w fun e w' => e = .returned (.bool v) ∧ w = w' := by rw [h] at c; exact c
theorem quiet_l {P : Program} {f : FuncId} {args : Array Value} {w : World} {n : Nat} {v : Value} (h : Calls P f args (w.drewN n) fun e w' => e = .returned v ∧ w.drewN n = w') :
    Calls P f args (w.drewN n) fun e w'' => e = .returned v ∧ ∃ m, w'' = w.drewN m := h.mono fun _ _ ⟨he, hm⟩ => ⟨he, n, hm.symm⟩
def SomeInt (w : World) (e : Ending) (w' : World) : Prop := ∃ r : Int, e = .returned (.int .i64 r) ∧ w = w' ∧ 0 ≤ r ∧ r ≤ 1048577
theorem globBytes (A : Option Addr) (n c : Nat) (f : Nat → ByteArray) (A' : Option Addr) (m d : Nat) (w : World) (h : InStrs w A n c f) (hn : n + tot f n + m ≤ 1048576) : Calls Try.prog 10 #[.slice A n c, .slice A' m d] w (SomeInt w) := by
  have H := Lib.hid h
  clear h
  go_enter Try.func10, Try.ntmps10
  by_cases h1 : n ≤ 65536
  · by_cases h2 : m ≤ 65536
    · by_cases h3 : m + 16 * n ≤ 1048576
      · go_wp2_with fail
        go_loopg [5, 6] n (fun g s z wr => w = wr ∧ ∃ k T : Nat, k ≤ n ∧ g = n - k ∧ s = .int .i64 (T : Int) ∧ T ≤ 1048576 ∧ z = .int .i64 k)
        case atStart => exact ⟨rfl, 0, m + 16 * n, Nat.zero_le _, rfl, by go_num, h3, rfl⟩
        case round =>
          obtain ⟨rfl, k, T, hk, rfl, rfl, hT, rfl⟩ := hrel
          by_cases hlt : k < n
          · obtain ⟨b, o, rfl, hb, hc⟩ := H.out.row.at_ hlt
            have ht := tot_at f hlt
            have hx : (f k).size ≤ 1048576 := by omega
            by_cases g2 : T + (f k).size ≤ 1048576
            · go_wp2_with fail
              go_roundg (n - (k + 1))
              case rel => exact ⟨rfl, k + 1, T + (f k).size, by omega, rfl, by go_num, g2, by go_num⟩
              case measure => omega
            · go_wp2_with fail
              go_ret
              exact ⟨_, rfl, rfl, by omega, by omega⟩
          · go_wp2_with fail
            go_ret
            exact ⟨_, rfl, rfl, by omega, by omega⟩
      · go_wp2_with fail
        go_ret
        exact ⟨_, rfl, rfl, by omega, by omega⟩
    · go_wp2_with fail
      go_ret
      exact ⟨_, rfl, rfl, by omega, by omega⟩
  · go_wp2_with fail
    go_ret
    exact ⟨_, rfl, rfl, by omega, by omega⟩
theorem globMin (A : Option Addr) (n c : Nat) (A' : Option Addr) (m d : Nat) (w : World) (hn : n ≤ 1048576) (hm : m ≤ 1048576) : Calls Try.prog 13 #[.slice A n c, .slice A' m d] w fun e w' => e = .returned (.int .i64 (min n m : Nat)) ∧ w = w' := by
  by_cases h : m < n
  · have hx := Lib.hid (show min n m = m by omega)
    go_enter Try.func13, Try.ntmps13
    go_wp2
    go_ret
    exact ⟨by rw [hx.out]; rfl, rfl⟩
  · have hx := Lib.hid (show min n m = n by omega)
    go_enter Try.func13, Try.ntmps13
    go_wp2
    go_ret
    exact ⟨by rw [hx.out]; rfl, rfl⟩
def starS (x : Int) : ByteArray := ⟨(stars x).toArray⟩
theorem globStars (x : Int) (w : World) : Calls Try.prog 14 #[.int .u8 x] w fun e w' => e = .returned (.string (starS x)) ∧ w = w' := by
  rcases (show x = 1 ∨ x = 2 ∨ (x ≠ 1 ∧ x ≠ 2) by omega) with rfl | rfl | ⟨h1, h2⟩
  · go_enter Try.func14, Try.ntmps14
    go_wp2
    go_ret
    exact ⟨rfl, rfl⟩
  · go_enter Try.func14, Try.ntmps14
    go_wp2
    go_ret
    exact ⟨rfl, rfl⟩
  · have e1 : (x == 1) = false := by simp [h1]
    have e2 : (x == 2) = false := by simp [h2]
    have hx := Lib.hid (show starS x = ⟨#[]⟩ by simp [starS, stars, h1, h2])
    clear h1 h2
    go_enter Try.func14, Try.ntmps14
    go_wp2
    go_ret
    exact ⟨by rw [hx.out]; rfl, rfl⟩

/-- The cells of a row of parts. -/
def pc (pre : Nat → ByteArray) (wc : Nat → Int) (i : Nat) : Value := if i % 2 = 0 then .string (pre (i / 2)) else .int .u8 (wc (i / 2))
theorem pc0 (pre : Nat → ByteArray) (wc : Nat → Int) (i : Nat) : pc pre wc (i * 2) = .string (pre i) := by unfold pc; rw [if_pos (by omega), show i * 2 / 2 = i by omega]
theorem pc1 (pre : Nat → ByteArray) (wc : Nat → Int) (i : Nat) : pc pre wc (i * 2 + 1) = .int .u8 (wc i) := by unfold pc; rw [if_neg (by omega), show (i * 2 + 1) / 2 = i by omega]
theorem row_parts {w : World} {g n B : Nat} {pre : Nat → ByteArray} {wc : Nat → Int} (h : w.rowIs g 35 (n * 2) (pc pre wc)) (hB : g < B) : RowP w B (some ⟨g, 0, none⟩) n pre wc := fun _ =>
  ⟨g, 0, rfl, hB, fun j hj => by
    rw [Nat.zero_add]
    have h1 := h.cell (i := j * 2) (by omega)
    have h2 := h.cell (i := j * 2 + 1) (by omega)
    rw [pc0] at h1
    rw [pc1] at h2
    exact ⟨h1, h2⟩⟩
theorem row_put {w : World} {g n : Nat} {pre : Nat → ByteArray} {wc : Nat → Int} (h : w.rowIs g 35 (n * 2) (pc pre wc)) (i : Nat) (a : ByteArray) (x : Int) :
    ((w.setCell ⟨g, i * 2, none⟩ (.string a)).setCell ⟨g, i * 2 + 1, none⟩ (.int .u8 x)).rowIs g 35 (n * 2) (pc (fun j => if j = i then a else pre j) (fun j => if j = i then x else wc j)) := by
  refine ((h.set _ _).set _ _).congr fun q hq => ?_
  unfold pc
  by_cases hqi : q / 2 = i
  · rcases (show q % 2 = 0 ∨ q % 2 = 1 by omega) with h | h
    · rw [if_neg (by omega), if_pos (by omega), if_pos h]; simp [hqi]
    · rw [if_pos (by omega), if_neg (by omega)]; simp [hqi]
  · rw [if_neg (by omega), if_neg (by omega)]; simp [hqi]

theorem str_append (a b : ByteArray) : (a ++ b).data.toList = a.data.toList ++ b.data.toList := by simp
theorem gS_split (pre : Nat → ByteArray) (wc : Nat → Int) {n c : Nat} (hc : c ≤ n) : gS pre wc c ++ gS (fun j => pre (c + j)) (fun j => wc (c + j)) (n - c) = gS pre wc n := by
  refine bytes_ext ?_
  rw [str_append]
  show gl pre wc c ++ gl _ _ (n - c) = gl pre wc n
  rw [← gl_add, show c + (n - c) = n by omega]
theorem gS_one (pre : Nat → ByteArray) (wc : Nat → Int) : gS pre wc 1 = pre 0 ++ starS (wc 0) := by
  refine bytes_ext ?_
  rw [str_append]
  show gl pre wc 1 = _
  simp [gl, part, starS]

theorem gS_size (pre : Nat → ByteArray) (wc : Nat → Int) (n : Nat) : (gS pre wc n).size ≤ tot pre n + 2 * n := by
  have := gl_len pre wc n
  have e : (gS pre wc n).size = (gl pre wc n).length := by simp [gS, ByteArray.size]
  omega
def bv (l : List UInt8) : List Value := l.map fun b => .int .u8 (b.toNat : Int)
theorem bv_length (l : List UInt8) : (bv l).length = l.length := by simp [bv]
theorem bv_cat (l : List UInt8) (x : ByteArray) : bv l ++ Lib.strCells x = bv (l ++ x.data.toList) := by
  have : Lib.strCells x = bv x.data.toList := rfl
  rw [this]; simp [bv]
theorem own_below {w w' : World} {base e size n : Nat} {v : Value} {xs : List Value} (h : w.ownsRow base e size v n xs) (hb : Below w.heap.size w w') : w'.ownsRow base e size v n xs := by
  refine ⟨h.1, ?_⟩
  rcases h.2 with h0 | ⟨g, cap, cur, e1, e2, e3, r⟩
  · exact .inl h0
  · exact .inr ⟨g, cap, cur, e1, e2, by rw [hb.block g (blk_lt e3)]; exact e3, r⟩
theorem own_row {w : World} {base N : Nat} {v : Value} {l : List UInt8} (h : w.ownsRow base 5 1 v N (bv l)) : ∃ A c, v = .slice A N c ∧ RowF w w.heap.size A N (fun p => .int .u8 ((l.getD p 0).toNat : Int)) := by
  have hl : l.length = N := by have := h.1; rw [bv_length] at this; omega
  rcases h.2 with ⟨rfl, h0⟩ | ⟨g, cap, cur, rfl, hb, hh, _⟩
  · subst h0; exact ⟨none, 0, rfl, fun h => absurd h (by omega)⟩
  · refine ⟨_, cap, rfl, fun hp => ⟨g, 0, rfl, blk_lt hh, fun j hj => ?_⟩⟩
    have hjl : j < l.length := by omega
    have := h.cells (g := g) rfl j (.int .u8 (l[j].toNat : Int)) (by simp [bv, hjl])
    rw [add_flat] at this
    rw [this]
    simp [List.getD_eq_getElem?_getD, hjl]
theorem toStrX (A : Option Addr) (n c : Nat) (pre : Nat → ByteArray) (wc : Nat → Int) (B : Nat) (x : World) (h : RowP x B A n pre wc) (hB : B ≤ x.heap.size) (hn : n ≤ 4194304) (ht : tot pre n ≤ 4194304) (W : World) (hW : Below x.heap.size x W) :
    Calls Try.prog 7 #[.slice A n c] W fun e w' => e = .returned (.string (gS pre wc n)) ∧ Below x.heap.size x w' :=
  (toStr A n c pre wc B W (h.below (hW.mono hB)) (Nat.le_trans hB hW.size) hn ht).mono fun e w' ⟨he, hb⟩ => ⟨he, hW.trans (hb.mono hW.size)⟩
theorem toStrX0 (A : Option Addr) (pre : Nat → ByteArray) (wc : Nat → Int) (B : Nat) (x : World) (hB : B ≤ x.heap.size) (W : World) (hW : Below x.heap.size x W) :
    Calls Try.prog 7 #[.slice A 0 0] W fun e w' => e = .returned (.string ⟨#[]⟩) ∧ Below x.heap.size x w' := toStrX A 0 0 pre wc B x RowP.none_ hB (by omega) (by simp [tot]) W hW
theorem tot_sub (f : Nat → ByteArray) (a b : Nat) : tot (fun j => f (a + j)) b ≤ tot f (a + b) := by
  induction b with
  | zero => exact Nat.zero_le _
  | succ b ih =>
    have e : tot f (a + (b + 1)) = tot f (a + b) + (f (a + b)).size := rfl
    have e' : tot (fun j => f (a + j)) (b + 1) = tot (fun j => f (a + j)) b + (f (a + b)).size := rfl
    omega
set_option maxHeartbeats 4000000 in
set_option maxRecDepth 100000 in
theorem fnGlobPatternToStringIsConcatOfParts.main (a0 : Option Addr) (n0 c0 : Nat) (f0 : Nat → ByteArray) (a1 : Option Addr) (n1 c1 : Nat) (f1 : Nat → Int) (a2 : Int) (w : World) (w0 : InStrs w a0 n0 c0 f0) (w1 : InInts .u8 w a1 n1 c1 f1)
    (w2 : (Lit.int .i64 a2).wf = true) (htot : n0 + tot f0 n0 + n1 ≤ 1048576) (h1 : n0 ≤ 65536) (h2 : n1 ≤ 65536) :
    Calls Try.prog 4 #[.slice a0 n0 c0, .slice a1 n1 c1, .int .i64 a2] w fun e w' => e = .returned (.bool true) ∧ Below w.heap.size w w' := by
  have hm1 := Nat.le_trans w1.le w1.max
  have C1 := Lib.hid (decB true (decide_eq_true htot) (zzB9 a0 n0 c0 f0 a1 n1 c1 a2 w w0 hm1))
  have C2 := Lib.hid (globBytes a0 n0 c0 f0 a1 n1 c1 w w0 htot)
  have W0 := Lib.hid w0
  have W1 := Lib.hid w1
  obtain ⟨hlo, hhi⟩ := bounds_i64 w2
  clear w0 w1 hm1 w2
  obtain ⟨i0, hi, hz0, hz1, hz2⟩ := info_parts Try.info35
  obtain ⟨j0, hj, hj0, hj1, hj2⟩ := info_parts Try.info5
  have HJ := Lib.hid hj
  have HJ0 := Lib.hid hj0
  have HJ1 := Lib.hid hj1
  have HJ2 := Lib.hid hj2
  clear hj hj0 hj1 hj2
  obtain ⟨n, hn⟩ : ∃ n, n = min n0 n1 := ⟨_, rfl⟩
  have hn0 : n ≤ n0 := by omega
  have hn1 : n ≤ n1 := by omega
  have hmk := fun W => run_make (P := Try.prog) (w := W) 23 35 i0 _ Try.underlying23 hi hz0 .i64 .i64 n n (by omega) (by omega) (by rw [hz2]; omega) (by omega)
  rw [hz1] at hmk
  have HN := Lib.hid hn
  clear hi hz0 hz1 hz2 hn
  go_enter Try.func4, Try.ntmps4
  go_wp2_with fail
  refine C1.out.mono ?_
  rintro e w' ⟨rfl, rfl⟩
  go_wp2_with fail
  refine C2.out.mono ?_
  rintro e w' ⟨r, rfl, rfl, hr0, hr1⟩
  by_cases hr : r ≤ 1048576
  · go_wp2_with fail
    refine (cloneStrs _ _ _ f0 _ W0.out.row (by omega)).mono ?_
    rintro e wa ⟨A, c, rfl, hcc, hra, hba⟩
    have HRA := Lib.hid hra
    have HBA := Lib.hid hba
    have HRB := Lib.hid ((W1.out.row.below hba).more hba.size)
    clear hra hba hcc
    go_wp2_with fail
    refine (cloneBytes _ _ _ f1 _ HRB.out (by omega)).mono ?_
    rintro e wb ⟨A', c', rfl, hcc, hrb, hbb⟩
    have HA := Lib.hid ((HRA.out.below hbb).more hbb.size)
    have HB := Lib.hid hrb
    have HBB := Lib.hid (HBA.out.trans (hbb.mono HBA.out.size))
    clear hrb hbb hcc HRA HRB HBA
    go_wp2_with fail
    refine (globMin A n0 c A' n1 c' _ (by omega) (by omega)).mono ?_
    rintro e w' ⟨rfl, rfl⟩
    rw [← HN.out]
    go_wp2_with fail
    clear hmk
    go_loopg [9] n (fun g z wr => ∃ k : Nat, k ≤ n ∧ g = n - k ∧ z = .int .i64 k ∧ wr.rowIs wb.heap.size 35 (n * 2) (pc (fun j => if j < k then f0 j else ⟨#[]⟩) (fun j => if j < k then f1 j else 0)) ∧ Below wb.heap.size wb wr)
    case atStart =>
      refine ⟨0, Nat.zero_le _, rfl, rfl, ?_, (Below.refl _ _).alloc (Nat.le_refl _) _⟩
      have hr := World.rowIs_alloc wb (madeCells #[.string ⟨#[]⟩, .int .u8 0] (n * 2)) 35 (pc (fun j => if j < 0 then f0 j else ⟨#[]⟩) (fun j => if j < 0 then f1 j else 0)) (fun i hi => by
        rw [size_madeCells] at hi
        simp only [madeCells, Array.getElem?_map, Array.getElem?_range, hi, if_true, Option.map_some]
        rcases (show i % 2 = 0 ∨ i % 2 = 1 by omega) with h | h <;> simp [pc, h])
      rw [size_madeCells] at hr
      exact hr
    case round =>
      obtain ⟨k, hk, rfl, rfl, hrow, hbel⟩ := hrel
      have HROW := Lib.hid hrow
      have HBE := Lib.hid hbel
      by_cases hlt : k < n
      · obtain ⟨b, o, hAe, hb, hc⟩ := HA.out.at_ (show k < n0 by omega)
        obtain ⟨b', o', hAe', hb', hc'⟩ := HB.out.at_ (show k < n1 by omega)
        subst hAe hAe'
        have d1 := (hbel.cell (p := ⟨b, o + k, none⟩) hb).trans hc
        have d2 := (hbel.cell (p := ⟨b', o' + k, none⟩) hb').trans hc'
        have d3 := hrow.cell (i := k * 2) (by omega)
        have d4 := hrow.cell (i := k * 2 + 1) (by omega)
        have d5 := hrow.frozen (k * 2)
        have d6 := hrow.frozen (k * 2 + 1)
        rw [pc0] at d3
        rw [pc1] at d4
        have e1 : (k : Int) < (n : Int) := by omega
        have e2 : (k : Int) < (n0 : Int) := by omega
        have e3 : (k : Int) < (n1 : Int) := by omega
        clear hc hc' hrow hbel
        go_wp2_with fail
        go_still_tail 12, (by kernel_rfl)
        change wpList _ _ _ _ _ wr.drew
        go_wp2_with fail
        go_roundg (n - (k + 1))
        case rel =>
          refine ⟨k + 1, by omega, rfl, by go_num, ((row_put HROW.out k (f0 k) (f1 k)).drew).congr fun q hq => ?_, ((HBE.out.setCell (p := ⟨wb.heap.size, k * 2, none⟩) (Nat.le_refl _) _).setCell (p := ⟨wb.heap.size, k * 2 + 1, none⟩) (Nat.le_refl _) _).drew⟩
          have g1 : (fun j => if j = k then f0 k else if j < k then f0 j else ⟨#[]⟩) = (fun j => if j < k + 1 then f0 j else (⟨#[]⟩ : ByteArray)) := by
            funext j
            by_cases e1 : j = k
            · subst e1; simp
            · by_cases e2 : j < k
              · simp [e1, e2, show j < k + 1 by omega]
              · simp [e1, e2, show ¬ j < k + 1 by omega]
          have g2 : (fun j => if j = k then f1 k else if j < k then f1 j else 0) = (fun j => if j < k + 1 then f1 j else (0 : Int)) := by
            funext j
            by_cases e1 : j = k
            · subst e1; simp
            · by_cases e2 : j < k
              · simp [e1, e2, show j < k + 1 by omega]
              · simp [e1, e2, show ¬ j < k + 1 by omega]
          rw [g1, g2]
        case measure => omega
      · have hgl := hrow.lt
        have HP : Hid (RowP wr (wb.heap.size + 1) (some ⟨wb.heap.size, 0, none⟩) n f0 f1) := Lib.hid (row_parts (hrow.congr fun q hq => by unfold pc; simp [show q / 2 < k by omega]) (by omega))
        have HAr := Lib.hid ((HA.out.below hbel).more (show wb.heap.size ≤ wb.heap.size + 1 by omega))
        have HBr := Lib.hid ((HB.out.below hbel).more (show wb.heap.size ≤ wb.heap.size + 1 by omega))
        have HBL : Hid (Below w.heap.size w wr) := Lib.hid (HBB.out.trans (hbel.mono HBB.out.size))
        have hww := HBL.out.size
        have hwwb := HBB.out.size
        clear hrow hbel HROW HBE HA HB HBB
        have q1 := Int.lt_tmod_of_pos a2 (b := (n : Int) + 1) (by omega)
        have q2 := Int.tmod_lt_of_pos a2 (b := (n : Int) + 1) (by omega)
        by_cases hneg : a2.tmod ((n : Int) + 1) < 0
        · obtain ⟨cn, hcn⟩ : ∃ cn : Nat, a2.tmod ((n : Int) + 1) + ((n : Int) + 1) = (cn : Int) := ⟨(a2.tmod ((n : Int) + 1) + ((n : Int) + 1)).toNat, by omega⟩
          have hcl : cn ≤ n := by omega
          have HCN := Lib.hid hcn
          clear hcn
          go_wp2_with fail
          rw [HCN.out]
          have htn := tot_mono f0 hn0
          have htc := tot_mono f0 (Nat.le_trans hcl hn0)
          have hts := tot_sub f0 cn (n - cn)
          rw [show cn + (n - cn) = n by omega] at hts
          refine (toStr _ n n f0 f1 _ _ HP.out (by omega) (by omega) (by omega)).mono ?_
          rintro e x1 ⟨rfl, hb1⟩
          have P1 := Lib.hid (HP.out.below (hb1.mono (by omega)))
          have A1 := Lib.hid (HAr.out.below (hb1.mono (by omega)))
          have B1 := Lib.hid (HBr.out.below (hb1.mono (by omega)))
          have L1 := Lib.hid (HBL.out.trans (hb1.mono hww))
          have s1 := hb1.size
          clear hb1
          go_wp2_with fail
          have hcc := toStr (some ⟨wb.heap.size, 0, none⟩) 0 n f0 f1 (wb.heap.size + 1) x1 RowP.none_ (by omega) (by omega) (by simp [tot])
          rw [show gS f0 f1 0 = ⟨#[]⟩ from rfl] at hcc
          refine hcc.mono ?_
          rintro e x2 ⟨rfl, hb2⟩
          have P2 := Lib.hid (P1.out.below (hb2.mono (by omega)))
          have A2 := Lib.hid (A1.out.below (hb2.mono (by omega)))
          have B2 := Lib.hid (B1.out.below (hb2.mono (by omega)))
          have L2 := Lib.hid (L1.out.trans (hb2.mono (by omega)))
          have s2 := hb2.size
          clear hb2 hcc
          have hx2 : wb.heap.size + 1 ≤ x2.heap.size := by omega
          have hspl := gS_split f0 f1 hcl
          have hcI : (cn : Int) ≤ (n : Int) := by omega
          have hlast : n - cn ≤ 4194304 := by omega
          have htsl : tot (fun j => f0 (cn + j)) (n - cn) ≤ 4194304 := by omega
          have htc2 : tot f0 cn ≤ 4194304 := by omega
          have hcn4 : cn ≤ 4194304 := by omega
          by_cases hcn : n = cn
          · obtain rfl : cn = n := by omega
            have hz1 : (gS f0 f1 cn).size + (⟨#[]⟩ : ByteArray).size ≤ 9223372036854775807 := by have := gS_size f0 f1 cn; have e0 : (⟨#[]⟩ : ByteArray).size = 0 := rfl; omega
            have e00 : gS f0 f1 cn ++ (⟨#[]⟩ : ByteArray) = gS f0 f1 cn := bytes_ext (by rw [str_append]; simp)
            have PC := P2
            clear hspl
            go_wp2_with fail
            go_region_with (first
              | (go_at_call_of 7 (Value.slice (some ⟨wb.heap.size, 0, none⟩) cn cn); refine (toStrX _ cn cn f0 f1 (wb.heap.size + 1) x2 PC.out hx2 hcn4 htc2 _ (by first | exact hbq | exact (Below.refl _ _).drew)).mono ?_; rintro e y ⟨rfl, hbq⟩)
              | (go_at_call_of 7 (Value.slice (some ⟨wb.heap.size, 0, none⟩) 0 0); refine (toStrX0 _ f0 f1 (wb.heap.size + 1) x2 hx2 _ (by first | exact hbq | exact (Below.refl _ _).drew)).mono ?_; rintro e y ⟨rfl, hbq⟩))
            all_goals
              have HQ := Lib.hid hbq
              have A3 := Lib.hid (A2.out.below (hbq.mono hx2))
              have B3 := Lib.hid (B2.out.below (hbq.mono hx2))
              have P3 := Lib.hid (P2.out.below (hbq.mono hx2))
              have L3 := Lib.hid (L2.out.trans (hbq.mono (by omega)))
              have s3 := hbq.size
              clear hbq
              go_wp2_with fail
              go_loopg [12, 13] cn (fun gh s z wr2 => ∃ k : Nat, k ≤ cn ∧ gh = cn - k ∧ z = .int .i64 k ∧ wr2.ownsRow (wb.heap.size + 1) 5 1 s (gl f0 f1 k).length (bv (gl f0 f1 k)) ∧ Below (wb.heap.size + 1) y wr2)
              case atStart => exact ⟨0, Nat.zero_le _, rfl, rfl, World.ownsRow_nil _ _ _ _, Below.refl _ _⟩
              case round =>
                obtain ⟨k, hk, rfl, rfl, ho, hbel⟩ := hrel
                have HO := Lib.hid ho
                have HE := Lib.hid hbel
                have hsy := hbel.size
                by_cases hlt : k < cn
                · obtain ⟨b, o, hAe, hb, hc⟩ := A3.out.at_ (show k < n0 by omega)
                  obtain ⟨b', o', hAe', hb', hc'⟩ := B3.out.at_ (show k < n1 by omega)
                  have PK := Lib.hid ((P3.out.below hbel).sub (i := k) (k := 1) (by omega))
                  rw [Nat.zero_add] at PK
                  have htk := tot_at f0 (show k < n0 by omega)
                  have htk2 := tot_at f0 hlt
                  have hgl := gl_len f0 f1 k
                  have htm := tot_mono f0 hk
                  clear ho hbel
                  have k1 : (k : Int) + 1 ≤ (cn : Int) := by omega
                  have k2 : ¬ cn = k := by omega
                  go_wp2_with fail
                  have hone := toStr (some ⟨wb.heap.size, k * 2, none⟩) 1 (cn - k) (fun j => f0 (k + j)) (fun j => f1 (k + j)) (wb.heap.size + 1) wr PK.out (by omega) (by omega) (by simp [tot]; omega)
                  rw [gS_one, Nat.add_zero] at hone
                  refine hone.mono ?_
                  rintro e z1 ⟨rfl, hbz⟩
                  have HO1 := Lib.hid (own_below HO.out hbz)
                  have HE1 : Hid (Below (wb.heap.size + 1) y z1) := Lib.hid (HE.out.trans (hbz.mono (by omega)))
                  have d1 := (HE1.out.cell (p := ⟨b, o + k, none⟩) hb).trans hc
                  have d2 := (HE1.out.cell (p := ⟨b', o' + k, none⟩) hb').trans hc'
                  subst hAe hAe'
                  have sz1 := hbz.size
                  have k3 : (k : Int) < (n0 : Int) := by omega
                  have k4 : (k : Int) < (n1 : Int) := by omega
                  have hst := stars_len (f1 k)
                  have hss : (starS (f1 k)).size = (stars (f1 k)).length := by simp [starS, ByteArray.size]
                  have hz2 : (f0 k).size + (starS (f1 k)).size ≤ 9223372036854775807 := by omega
                  have hz3 : (f0 k ++ starS (f1 k)).size = (f0 k).size + (stars (f1 k)).length := by rw [ByteArray.size_append, hss]
                  have HZ3 := Lib.hid hz3
                  clear hbz hone HO HE hc hc' hss hz3
                  go_wp2_with fail
                  go_quiet ((go_at_call 14; exact quiet_l (globStars _ _)))
                  go_wp2_with (at_builtin; refine Lib.wpList_append_own_string _ rfl (.tmp 108) (.tmp 109) 28 9 rfl (wb.heap.size + 1) 5 j0 Try.underlying28 Try.underlying9 HJ.out HJ0.out HJ1.out HJ2.out _ _ _ rfl (by exact HO1.out) (f0 k ++ starS (f1 k)) rfl (by rw [HZ3.out]; unfold maxLen; omega) (by rw [HZ3.out]; omega) (by simp; omega) ?_; intro v2 z2 hown2 hgr2 _; have HO2 := Lib.hid hown2; have HE2 : Hid (Below (wb.heap.size + 1) y z2) := Lib.hid ((below_drewN' HE1.out _).grown hgr2 (by simp; omega) (fun q hq => (HO1.out.lt q hq).1)); clear hown2 hgr2 HE1 HO1 d1 d2)
                  go_roundg (cn - (k + 1))
                  case rel =>
                    refine ⟨k + 1, by omega, rfl, by go_num, ?_, HE2.out⟩
                    have h2 := HO2.out
                    rw [bv_cat] at h2
                    have e2 : (gl f0 f1 k).length + (f0 k ++ starS (f1 k)).size = (gl f0 f1 (k + 1)).length := by rw [gl_succ, List.length_append, HZ3.out]; simp [part]
                    have e3 : gl f0 f1 k ++ (f0 k ++ starS (f1 k)).data.toList = gl f0 f1 (k + 1) := by rw [gl_succ, str_append]; simp [part, starS]
                    rw [e2, e3] at h2
                    exact h2
                  case measure => omega
                · have hkn : k = cn := by omega
                  have HKN := Lib.hid hkn
                  obtain ⟨A5, c5, hv5, hr5⟩ := own_row ho
                  have hcv := conv_row (P := Try.prog) (c := c5) hr5 28 5 9 Try.underlying28 Try.underlying5 Try.underlying9
                  have HS : strOfNums ((List.range (gl f0 f1 k).length).map fun p => (((gl f0 f1 k).getD p 0).toNat : Int)) = gS f0 f1 cn := by
                    refine bytes_ext ?_
                    rw [strOfNums_data]
                    show _ = gl f0 f1 cn
                    rw [← hkn]
                    refine List.ext_getElem (by simp) fun i h1 h2 => ?_
                    simp [List.getD_eq_getElem?_getD, h2]
                  rw [HS] at hcv
                  clear hr5 HS ho hbel HO
                  rw [hv5]
                  clear hkn hv5
                  go_wp2_with fail
                  go_ret
                  exact ⟨rfl, L3.out.trans (HE.out.mono (by omega))⟩
          · have hz1 : (gS f0 f1 cn).size + (gS (fun j => f0 (cn + j)) (fun j => f1 (cn + j)) (n - cn)).size ≤ 9223372036854775807 := by have := gS_size f0 f1 cn; have := gS_size (fun j => f0 (cn + j)) (fun j => f1 (cn + j)) (n - cn); omega
            have PT : Hid (RowP x2 (wb.heap.size + 1) (some ⟨wb.heap.size, cn * 2, none⟩) (n - cn) (fun j => f0 (cn + j)) (fun j => f1 (cn + j))) := Lib.hid (by have := P2.out.sub (i := cn) (k := n - cn) (by omega); rw [Nat.zero_add] at this; exact this)
            have PC := Lib.hid (P2.out.take hcl)
            go_wp2_with fail
            go_region_with (first
              | (go_at_call_of 7 (Value.slice (some ⟨wb.heap.size, 0, none⟩) cn n); refine (toStrX _ cn n f0 f1 (wb.heap.size + 1) x2 PC.out hx2 hcn4 htc2 _ (by first | exact hbq | exact (Below.refl _ _).drew)).mono ?_; rintro e y ⟨rfl, hbq⟩)
              | (go_at_call_of 7 (Value.slice (some ⟨wb.heap.size, cn * 2, none⟩) (n - cn) (n - cn)); refine (toStrX _ (n - cn) (n - cn) (fun j => f0 (cn + j)) (fun j => f1 (cn + j)) (wb.heap.size + 1) x2 PT.out hx2 hlast htsl _ (by first | exact hbq | exact (Below.refl _ _).drew)).mono ?_; rintro e y ⟨rfl, hbq⟩))
            all_goals
              have HQ := Lib.hid hbq
              have A3 := Lib.hid (A2.out.below (hbq.mono hx2))
              have B3 := Lib.hid (B2.out.below (hbq.mono hx2))
              have P3 := Lib.hid (P2.out.below (hbq.mono hx2))
              have L3 := Lib.hid (L2.out.trans (hbq.mono (by omega)))
              have s3 := hbq.size
              clear hbq
              go_wp2_with fail
              go_loopg [12, 13] n (fun gh s z wr2 => ∃ k : Nat, k ≤ n ∧ gh = n - k ∧ z = .int .i64 k ∧ wr2.ownsRow (wb.heap.size + 1) 5 1 s (gl f0 f1 k).length (bv (gl f0 f1 k)) ∧ Below (wb.heap.size + 1) y wr2)
              case atStart => exact ⟨0, Nat.zero_le _, rfl, rfl, World.ownsRow_nil _ _ _ _, Below.refl _ _⟩
              case round =>
                obtain ⟨k, hk, rfl, rfl, ho, hbel⟩ := hrel
                have HO := Lib.hid ho
                have HE := Lib.hid hbel
                have hsy := hbel.size
                by_cases hlt : k < n
                · obtain ⟨b, o, hAe, hb, hc⟩ := A3.out.at_ (show k < n0 by omega)
                  obtain ⟨b', o', hAe', hb', hc'⟩ := B3.out.at_ (show k < n1 by omega)
                  have PK := Lib.hid ((P3.out.below hbel).sub (i := k) (k := 1) (by omega))
                  rw [Nat.zero_add] at PK
                  have htk := tot_at f0 (show k < n0 by omega)
                  have htk2 := tot_at f0 hlt
                  have hgl := gl_len f0 f1 k
                  have htm := tot_mono f0 hk
                  clear ho hbel
                  have k1 : (k : Int) + 1 ≤ (n : Int) := by omega
                  have k2 : ¬ n = k := by omega
                  go_wp2_with fail
                  have hone := toStr (some ⟨wb.heap.size, k * 2, none⟩) 1 (n - k) (fun j => f0 (k + j)) (fun j => f1 (k + j)) (wb.heap.size + 1) wr PK.out (by omega) (by omega) (by simp [tot]; omega)
                  rw [gS_one, Nat.add_zero] at hone
                  refine hone.mono ?_
                  rintro e z1 ⟨rfl, hbz⟩
                  have HO1 := Lib.hid (own_below HO.out hbz)
                  have HE1 : Hid (Below (wb.heap.size + 1) y z1) := Lib.hid (HE.out.trans (hbz.mono (by omega)))
                  have d1 := (HE1.out.cell (p := ⟨b, o + k, none⟩) hb).trans hc
                  have d2 := (HE1.out.cell (p := ⟨b', o' + k, none⟩) hb').trans hc'
                  subst hAe hAe'
                  have sz1 := hbz.size
                  have k3 : (k : Int) < (n0 : Int) := by omega
                  have k4 : (k : Int) < (n1 : Int) := by omega
                  have hst := stars_len (f1 k)
                  have hss : (starS (f1 k)).size = (stars (f1 k)).length := by simp [starS, ByteArray.size]
                  have hz2 : (f0 k).size + (starS (f1 k)).size ≤ 9223372036854775807 := by omega
                  have hz3 : (f0 k ++ starS (f1 k)).size = (f0 k).size + (stars (f1 k)).length := by rw [ByteArray.size_append, hss]
                  have HZ3 := Lib.hid hz3
                  clear hbz hone HO HE hc hc' hss hz3
                  go_wp2_with fail
                  go_quiet ((go_at_call 14; exact quiet_l (globStars _ _)))
                  go_wp2_with (at_builtin; refine Lib.wpList_append_own_string _ rfl (.tmp 108) (.tmp 109) 28 9 rfl (wb.heap.size + 1) 5 j0 Try.underlying28 Try.underlying9 HJ.out HJ0.out HJ1.out HJ2.out _ _ _ rfl (by exact HO1.out) (f0 k ++ starS (f1 k)) rfl (by rw [HZ3.out]; unfold maxLen; omega) (by rw [HZ3.out]; omega) (by simp; omega) ?_; intro v2 z2 hown2 hgr2 _; have HO2 := Lib.hid hown2; have HE2 : Hid (Below (wb.heap.size + 1) y z2) := Lib.hid ((below_drewN' HE1.out _).grown hgr2 (by simp; omega) (fun q hq => (HO1.out.lt q hq).1)); clear hown2 hgr2 HE1 HO1 d1 d2)
                  go_roundg (n - (k + 1))
                  case rel =>
                    refine ⟨k + 1, by omega, rfl, by go_num, ?_, HE2.out⟩
                    have h2 := HO2.out
                    rw [bv_cat] at h2
                    have e2 : (gl f0 f1 k).length + (f0 k ++ starS (f1 k)).size = (gl f0 f1 (k + 1)).length := by rw [gl_succ, List.length_append, HZ3.out]; simp [part]
                    have e3 : gl f0 f1 k ++ (f0 k ++ starS (f1 k)).data.toList = gl f0 f1 (k + 1) := by rw [gl_succ, str_append]; simp [part, starS]
                    rw [e2, e3] at h2
                    exact h2
                  case measure => omega
                · have hkn : k = n := by omega
                  have HKN := Lib.hid hkn
                  obtain ⟨A5, c5, hv5, hr5⟩ := own_row ho
                  have hcv := conv_row (P := Try.prog) (c := c5) hr5 28 5 9 Try.underlying28 Try.underlying5 Try.underlying9
                  have HS : strOfNums ((List.range (gl f0 f1 k).length).map fun p => (((gl f0 f1 k).getD p 0).toNat : Int)) = gS f0 f1 n := by
                    refine bytes_ext ?_
                    rw [strOfNums_data]
                    show _ = gl f0 f1 n
                    rw [← hkn]
                    refine List.ext_getElem (by simp) fun i h1 h2 => ?_
                    simp [List.getD_eq_getElem?_getD, h2]
                  rw [HS] at hcv
                  clear hr5 HS ho hbel HO
                  rw [hv5]
                  clear hkn hv5
                  go_wp2_with fail
                  go_ret
                  exact ⟨rfl, L3.out.trans (HE.out.mono (by omega))⟩
        · obtain ⟨cn, hcn⟩ : ∃ cn : Nat, a2.tmod ((n : Int) + 1) = (cn : Int) := ⟨(a2.tmod ((n : Int) + 1)).toNat, by omega⟩
          have hcl : cn ≤ n := by omega
          have HCN := Lib.hid hcn
          clear hcn
          go_wp2_with fail
          rw [HCN.out]
          have htn := tot_mono f0 hn0
          have htc := tot_mono f0 (Nat.le_trans hcl hn0)
          have hts := tot_sub f0 cn (n - cn)
          rw [show cn + (n - cn) = n by omega] at hts
          refine (toStr _ n n f0 f1 _ _ HP.out (by omega) (by omega) (by omega)).mono ?_
          rintro e x1 ⟨rfl, hb1⟩
          have P1 := Lib.hid (HP.out.below (hb1.mono (by omega)))
          have A1 := Lib.hid (HAr.out.below (hb1.mono (by omega)))
          have B1 := Lib.hid (HBr.out.below (hb1.mono (by omega)))
          have L1 := Lib.hid (HBL.out.trans (hb1.mono hww))
          have s1 := hb1.size
          clear hb1
          go_wp2_with fail
          have hcc := toStr (some ⟨wb.heap.size, 0, none⟩) 0 n f0 f1 (wb.heap.size + 1) x1 RowP.none_ (by omega) (by omega) (by simp [tot])
          rw [show gS f0 f1 0 = ⟨#[]⟩ from rfl] at hcc
          refine hcc.mono ?_
          rintro e x2 ⟨rfl, hb2⟩
          have P2 := Lib.hid (P1.out.below (hb2.mono (by omega)))
          have A2 := Lib.hid (A1.out.below (hb2.mono (by omega)))
          have B2 := Lib.hid (B1.out.below (hb2.mono (by omega)))
          have L2 := Lib.hid (L1.out.trans (hb2.mono (by omega)))
          have s2 := hb2.size
          clear hb2 hcc
          have hx2 : wb.heap.size + 1 ≤ x2.heap.size := by omega
          have hspl := gS_split f0 f1 hcl
          have hcI : (cn : Int) ≤ (n : Int) := by omega
          have hlast : n - cn ≤ 4194304 := by omega
          have htsl : tot (fun j => f0 (cn + j)) (n - cn) ≤ 4194304 := by omega
          have htc2 : tot f0 cn ≤ 4194304 := by omega
          have hcn4 : cn ≤ 4194304 := by omega
          by_cases hcn : n = cn
          · obtain rfl : cn = n := by omega
            have hz1 : (gS f0 f1 cn).size + (⟨#[]⟩ : ByteArray).size ≤ 9223372036854775807 := by have := gS_size f0 f1 cn; have e0 : (⟨#[]⟩ : ByteArray).size = 0 := rfl; omega
            have e00 : gS f0 f1 cn ++ (⟨#[]⟩ : ByteArray) = gS f0 f1 cn := bytes_ext (by rw [str_append]; simp)
            have PC := P2
            clear hspl
            go_wp2_with fail
            go_region_with (first
              | (go_at_call_of 7 (Value.slice (some ⟨wb.heap.size, 0, none⟩) cn cn); refine (toStrX _ cn cn f0 f1 (wb.heap.size + 1) x2 PC.out hx2 hcn4 htc2 _ (by first | exact hbq | exact (Below.refl _ _).drew)).mono ?_; rintro e y ⟨rfl, hbq⟩)
              | (go_at_call_of 7 (Value.slice (some ⟨wb.heap.size, 0, none⟩) 0 0); refine (toStrX0 _ f0 f1 (wb.heap.size + 1) x2 hx2 _ (by first | exact hbq | exact (Below.refl _ _).drew)).mono ?_; rintro e y ⟨rfl, hbq⟩))
            all_goals
              have HQ := Lib.hid hbq
              have A3 := Lib.hid (A2.out.below (hbq.mono hx2))
              have B3 := Lib.hid (B2.out.below (hbq.mono hx2))
              have P3 := Lib.hid (P2.out.below (hbq.mono hx2))
              have L3 := Lib.hid (L2.out.trans (hbq.mono (by omega)))
              have s3 := hbq.size
              clear hbq
              go_wp2_with fail
              go_loopg [12, 13] cn (fun gh s z wr2 => ∃ k : Nat, k ≤ cn ∧ gh = cn - k ∧ z = .int .i64 k ∧ wr2.ownsRow (wb.heap.size + 1) 5 1 s (gl f0 f1 k).length (bv (gl f0 f1 k)) ∧ Below (wb.heap.size + 1) y wr2)
              case atStart => exact ⟨0, Nat.zero_le _, rfl, rfl, World.ownsRow_nil _ _ _ _, Below.refl _ _⟩
              case round =>
                obtain ⟨k, hk, rfl, rfl, ho, hbel⟩ := hrel
                have HO := Lib.hid ho
                have HE := Lib.hid hbel
                have hsy := hbel.size
                by_cases hlt : k < cn
                · obtain ⟨b, o, hAe, hb, hc⟩ := A3.out.at_ (show k < n0 by omega)
                  obtain ⟨b', o', hAe', hb', hc'⟩ := B3.out.at_ (show k < n1 by omega)
                  have PK := Lib.hid ((P3.out.below hbel).sub (i := k) (k := 1) (by omega))
                  rw [Nat.zero_add] at PK
                  have htk := tot_at f0 (show k < n0 by omega)
                  have htk2 := tot_at f0 hlt
                  have hgl := gl_len f0 f1 k
                  have htm := tot_mono f0 hk
                  clear ho hbel
                  have k1 : (k : Int) + 1 ≤ (cn : Int) := by omega
                  have k2 : ¬ cn = k := by omega
                  go_wp2_with fail
                  have hone := toStr (some ⟨wb.heap.size, k * 2, none⟩) 1 (cn - k) (fun j => f0 (k + j)) (fun j => f1 (k + j)) (wb.heap.size + 1) wr PK.out (by omega) (by omega) (by simp [tot]; omega)
                  rw [gS_one, Nat.add_zero] at hone
                  refine hone.mono ?_
                  rintro e z1 ⟨rfl, hbz⟩
                  have HO1 := Lib.hid (own_below HO.out hbz)
                  have HE1 : Hid (Below (wb.heap.size + 1) y z1) := Lib.hid (HE.out.trans (hbz.mono (by omega)))
                  have d1 := (HE1.out.cell (p := ⟨b, o + k, none⟩) hb).trans hc
                  have d2 := (HE1.out.cell (p := ⟨b', o' + k, none⟩) hb').trans hc'
                  subst hAe hAe'
                  have sz1 := hbz.size
                  have k3 : (k : Int) < (n0 : Int) := by omega
                  have k4 : (k : Int) < (n1 : Int) := by omega
                  have hst := stars_len (f1 k)
                  have hss : (starS (f1 k)).size = (stars (f1 k)).length := by simp [starS, ByteArray.size]
                  have hz2 : (f0 k).size + (starS (f1 k)).size ≤ 9223372036854775807 := by omega
                  have hz3 : (f0 k ++ starS (f1 k)).size = (f0 k).size + (stars (f1 k)).length := by rw [ByteArray.size_append, hss]
                  have HZ3 := Lib.hid hz3
                  clear hbz hone HO HE hc hc' hss hz3
                  go_wp2_with fail
                  go_quiet ((go_at_call 14; exact quiet_l (globStars _ _)))
                  go_wp2_with (at_builtin; refine Lib.wpList_append_own_string _ rfl (.tmp 108) (.tmp 109) 28 9 rfl (wb.heap.size + 1) 5 j0 Try.underlying28 Try.underlying9 HJ.out HJ0.out HJ1.out HJ2.out _ _ _ rfl (by exact HO1.out) (f0 k ++ starS (f1 k)) rfl (by rw [HZ3.out]; unfold maxLen; omega) (by rw [HZ3.out]; omega) (by simp; omega) ?_; intro v2 z2 hown2 hgr2 _; have HO2 := Lib.hid hown2; have HE2 : Hid (Below (wb.heap.size + 1) y z2) := Lib.hid ((below_drewN' HE1.out _).grown hgr2 (by simp; omega) (fun q hq => (HO1.out.lt q hq).1)); clear hown2 hgr2 HE1 HO1 d1 d2)
                  go_roundg (cn - (k + 1))
                  case rel =>
                    refine ⟨k + 1, by omega, rfl, by go_num, ?_, HE2.out⟩
                    have h2 := HO2.out
                    rw [bv_cat] at h2
                    have e2 : (gl f0 f1 k).length + (f0 k ++ starS (f1 k)).size = (gl f0 f1 (k + 1)).length := by rw [gl_succ, List.length_append, HZ3.out]; simp [part]
                    have e3 : gl f0 f1 k ++ (f0 k ++ starS (f1 k)).data.toList = gl f0 f1 (k + 1) := by rw [gl_succ, str_append]; simp [part, starS]
                    rw [e2, e3] at h2
                    exact h2
                  case measure => omega
                · have hkn : k = cn := by omega
                  have HKN := Lib.hid hkn
                  obtain ⟨A5, c5, hv5, hr5⟩ := own_row ho
                  have hcv := conv_row (P := Try.prog) (c := c5) hr5 28 5 9 Try.underlying28 Try.underlying5 Try.underlying9
                  have HS : strOfNums ((List.range (gl f0 f1 k).length).map fun p => (((gl f0 f1 k).getD p 0).toNat : Int)) = gS f0 f1 cn := by
                    refine bytes_ext ?_
                    rw [strOfNums_data]
                    show _ = gl f0 f1 cn
                    rw [← hkn]
                    refine List.ext_getElem (by simp) fun i h1 h2 => ?_
                    simp [List.getD_eq_getElem?_getD, h2]
                  rw [HS] at hcv
                  clear hr5 HS ho hbel HO
                  rw [hv5]
                  clear hkn hv5
                  go_wp2_with fail
                  go_ret
                  exact ⟨rfl, L3.out.trans (HE.out.mono (by omega))⟩
          · have hz1 : (gS f0 f1 cn).size + (gS (fun j => f0 (cn + j)) (fun j => f1 (cn + j)) (n - cn)).size ≤ 9223372036854775807 := by have := gS_size f0 f1 cn; have := gS_size (fun j => f0 (cn + j)) (fun j => f1 (cn + j)) (n - cn); omega
            have PT : Hid (RowP x2 (wb.heap.size + 1) (some ⟨wb.heap.size, cn * 2, none⟩) (n - cn) (fun j => f0 (cn + j)) (fun j => f1 (cn + j))) := Lib.hid (by have := P2.out.sub (i := cn) (k := n - cn) (by omega); rw [Nat.zero_add] at this; exact this)
            have PC := Lib.hid (P2.out.take hcl)
            go_wp2_with fail
            go_region_with (first
              | (go_at_call_of 7 (Value.slice (some ⟨wb.heap.size, 0, none⟩) cn n); refine (toStrX _ cn n f0 f1 (wb.heap.size + 1) x2 PC.out hx2 hcn4 htc2 _ (by first | exact hbq | exact (Below.refl _ _).drew)).mono ?_; rintro e y ⟨rfl, hbq⟩)
              | (go_at_call_of 7 (Value.slice (some ⟨wb.heap.size, cn * 2, none⟩) (n - cn) (n - cn)); refine (toStrX _ (n - cn) (n - cn) (fun j => f0 (cn + j)) (fun j => f1 (cn + j)) (wb.heap.size + 1) x2 PT.out hx2 hlast htsl _ (by first | exact hbq | exact (Below.refl _ _).drew)).mono ?_; rintro e y ⟨rfl, hbq⟩))
            all_goals
              have HQ := Lib.hid hbq
              have A3 := Lib.hid (A2.out.below (hbq.mono hx2))
              have B3 := Lib.hid (B2.out.below (hbq.mono hx2))
              have P3 := Lib.hid (P2.out.below (hbq.mono hx2))
              have L3 := Lib.hid (L2.out.trans (hbq.mono (by omega)))
              have s3 := hbq.size
              clear hbq
              go_wp2_with fail
              go_loopg [12, 13] n (fun gh s z wr2 => ∃ k : Nat, k ≤ n ∧ gh = n - k ∧ z = .int .i64 k ∧ wr2.ownsRow (wb.heap.size + 1) 5 1 s (gl f0 f1 k).length (bv (gl f0 f1 k)) ∧ Below (wb.heap.size + 1) y wr2)
              case atStart => exact ⟨0, Nat.zero_le _, rfl, rfl, World.ownsRow_nil _ _ _ _, Below.refl _ _⟩
              case round =>
                obtain ⟨k, hk, rfl, rfl, ho, hbel⟩ := hrel
                have HO := Lib.hid ho
                have HE := Lib.hid hbel
                have hsy := hbel.size
                by_cases hlt : k < n
                · obtain ⟨b, o, hAe, hb, hc⟩ := A3.out.at_ (show k < n0 by omega)
                  obtain ⟨b', o', hAe', hb', hc'⟩ := B3.out.at_ (show k < n1 by omega)
                  have PK := Lib.hid ((P3.out.below hbel).sub (i := k) (k := 1) (by omega))
                  rw [Nat.zero_add] at PK
                  have htk := tot_at f0 (show k < n0 by omega)
                  have htk2 := tot_at f0 hlt
                  have hgl := gl_len f0 f1 k
                  have htm := tot_mono f0 hk
                  clear ho hbel
                  have k1 : (k : Int) + 1 ≤ (n : Int) := by omega
                  have k2 : ¬ n = k := by omega
                  go_wp2_with fail
                  have hone := toStr (some ⟨wb.heap.size, k * 2, none⟩) 1 (n - k) (fun j => f0 (k + j)) (fun j => f1 (k + j)) (wb.heap.size + 1) wr PK.out (by omega) (by omega) (by simp [tot]; omega)
                  rw [gS_one, Nat.add_zero] at hone
                  refine hone.mono ?_
                  rintro e z1 ⟨rfl, hbz⟩
                  have HO1 := Lib.hid (own_below HO.out hbz)
                  have HE1 : Hid (Below (wb.heap.size + 1) y z1) := Lib.hid (HE.out.trans (hbz.mono (by omega)))
                  have d1 := (HE1.out.cell (p := ⟨b, o + k, none⟩) hb).trans hc
                  have d2 := (HE1.out.cell (p := ⟨b', o' + k, none⟩) hb').trans hc'
                  subst hAe hAe'
                  have sz1 := hbz.size
                  have k3 : (k : Int) < (n0 : Int) := by omega
                  have k4 : (k : Int) < (n1 : Int) := by omega
                  have hst := stars_len (f1 k)
                  have hss : (starS (f1 k)).size = (stars (f1 k)).length := by simp [starS, ByteArray.size]
                  have hz2 : (f0 k).size + (starS (f1 k)).size ≤ 9223372036854775807 := by omega
                  have hz3 : (f0 k ++ starS (f1 k)).size = (f0 k).size + (stars (f1 k)).length := by rw [ByteArray.size_append, hss]
                  have HZ3 := Lib.hid hz3
                  clear hbz hone HO HE hc hc' hss hz3
                  go_wp2_with fail
                  go_quiet ((go_at_call 14; exact quiet_l (globStars _ _)))
                  go_wp2_with (at_builtin; refine Lib.wpList_append_own_string _ rfl (.tmp 108) (.tmp 109) 28 9 rfl (wb.heap.size + 1) 5 j0 Try.underlying28 Try.underlying9 HJ.out HJ0.out HJ1.out HJ2.out _ _ _ rfl (by exact HO1.out) (f0 k ++ starS (f1 k)) rfl (by rw [HZ3.out]; unfold maxLen; omega) (by rw [HZ3.out]; omega) (by simp; omega) ?_; intro v2 z2 hown2 hgr2 _; have HO2 := Lib.hid hown2; have HE2 : Hid (Below (wb.heap.size + 1) y z2) := Lib.hid ((below_drewN' HE1.out _).grown hgr2 (by simp; omega) (fun q hq => (HO1.out.lt q hq).1)); clear hown2 hgr2 HE1 HO1 d1 d2)
                  go_roundg (n - (k + 1))
                  case rel =>
                    refine ⟨k + 1, by omega, rfl, by go_num, ?_, HE2.out⟩
                    have h2 := HO2.out
                    rw [bv_cat] at h2
                    have e2 : (gl f0 f1 k).length + (f0 k ++ starS (f1 k)).size = (gl f0 f1 (k + 1)).length := by rw [gl_succ, List.length_append, HZ3.out]; simp [part]
                    have e3 : gl f0 f1 k ++ (f0 k ++ starS (f1 k)).data.toList = gl f0 f1 (k + 1) := by rw [gl_succ, str_append]; simp [part, starS]
                    rw [e2, e3] at h2
                    exact h2
                  case measure => omega
                · have hkn : k = n := by omega
                  have HKN := Lib.hid hkn
                  obtain ⟨A5, c5, hv5, hr5⟩ := own_row ho
                  have hcv := conv_row (P := Try.prog) (c := c5) hr5 28 5 9 Try.underlying28 Try.underlying5 Try.underlying9
                  have HS : strOfNums ((List.range (gl f0 f1 k).length).map fun p => (((gl f0 f1 k).getD p 0).toNat : Int)) = gS f0 f1 n := by
                    refine bytes_ext ?_
                    rw [strOfNums_data]
                    show _ = gl f0 f1 n
                    rw [← hkn]
                    refine List.ext_getElem (by simp) fun i h1 h2 => ?_
                    simp [List.getD_eq_getElem?_getD, h2]
                  rw [HS] at hcv
                  clear hr5 HS ho hbel HO
                  rw [hv5]
                  clear hkn hv5
                  go_wp2_with fail
                  go_ret
                  exact ⟨rfl, L3.out.trans (HE.out.mono (by omega))⟩
  · go_wp2_with fail
    go_ret
    exact ⟨rfl, Below.refl _ _⟩

theorem fnGlobPatternToStringIsConcatOfParts.walk (a0 : Option Addr) (n0 c0 : Nat) (f0 : Nat → ByteArray) (a1 : Option Addr) (n1 c1 : Nat) (f1 : Nat → Int) (a2 : Int) (w : World) (w0 : InStrs w a0 n0 c0 f0) (w1 : InInts .u8 w a1 n1 c1 f1)
    (w2 : (Lit.int .i64 a2).wf = true) :
    Calls Try.prog 4 #[.slice a0 n0 c0, .slice a1 n1 c1, .int .i64 a2] w fun e w' => e = .returned (.bool true) ∧ Below w.heap.size w w' := by
  have hm1 := Nat.le_trans w1.le w1.max
  have hm0 := Nat.le_trans w0.le w0.max
  by_cases htot : n0 + tot f0 n0 + n1 ≤ 1048576
  · by_cases h1 : n0 ≤ 65536
    · by_cases h2 : n1 ≤ 65536
      · exact main a0 n0 c0 f0 a1 n1 c1 f1 a2 w w0 w1 w2 htot h1 h2
      · have C1 := Lib.hid (decB true (decide_eq_true htot) (zzB9 a0 n0 c0 f0 a1 n1 c1 a2 w w0 hm1))
        clear w0 w1 w2 hm1 hm0
        go_enter Try.func4, Try.ntmps4
        go_wp2_with fail
        refine C1.out.mono ?_
        rintro e w' ⟨rfl, rfl⟩
        go_wp2_with fail
        go_ret
        exact ⟨rfl, Below.refl _ _⟩
    · have C1 := Lib.hid (decB true (decide_eq_true htot) (zzB9 a0 n0 c0 f0 a1 n1 c1 a2 w w0 hm1))
      clear w0 w1 w2 hm1 hm0
      go_enter Try.func4, Try.ntmps4
      go_wp2_with fail
      refine C1.out.mono ?_
      rintro e w' ⟨rfl, rfl⟩
      go_wp2_with fail
      go_ret
      exact ⟨rfl, Below.refl _ _⟩
  · have C1 := Lib.hid (decB false (decide_eq_false htot) (zzB9 a0 n0 c0 f0 a1 n1 c1 a2 w w0 hm1))
    clear w0 w1 w2 hm1 hm0
    go_enter Try.func4, Try.ntmps4
    go_wp2_with fail
    refine C1.out.mono ?_
    rintro e w' ⟨rfl, rfl⟩
    go_wp2_with fail
    go_ret
    exact ⟨rfl, Below.refl _ _⟩
end Go.Proofs.Ythkfaohmkncgeaa
