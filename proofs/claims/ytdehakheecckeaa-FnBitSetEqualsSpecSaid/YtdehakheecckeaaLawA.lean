/- The walk of the law FnBitSetOrderFreeIdempotent. -/
import Derived.Test.YtdehakheecckeaaWalks
import Derived.Deep.QuietTactic
import Derived.BigQuiet
import Derived.StillTailTactics
namespace Go.Proofs.Ytdehakheecckeaa
open Go.RowKit
set_option linter.unusedVariables false
set_option linter.unusedSimpArgs false

/-- Two sets behind two local variables, and the list of bits, in a world. -/
structure St (B ba bb ga gb m m' : Nat) (A : Option Addr) (n : Nat) (f : Nat → Int) (E1 E2 : Nat → Nat) (w wr : World) : Prop where
  ca : wr.cell? ⟨ba, 0, none⟩ = some (.slice (some ⟨ga, 0, none⟩) m m)
  cb : wr.cell? ⟨bb, 0, none⟩ = some (.slice (some ⟨gb, 0, none⟩) m' m')
  ra : wr.rowIs ga 5 m (fun i => .int .u8 (E1 i))
  rb : wr.rowIs gb 5 m' (fun i => .int .u8 (E2 i))
  row : RowF wr B A n (fun i => .int .u64 (f i))
  bel : Below w.heap.size w wr
  wB : w.heap.size ≤ B
  Bs : B ≤ ba ∧ B ≤ bb ∧ B ≤ ga ∧ B ≤ gb
  ne : ga ≠ gb ∧ ga ≠ ba ∧ ga ≠ bb ∧ gb ≠ ba ∧ gb ≠ bb
  lt : ba < wr.heap.size ∧ bb < wr.heap.size

theorem cell_grown {w w' : World} {g : Nat} (h : w.grownBy w' (some g)) {p : Addr} (hp : p.block < w.heap.size) (hne : p.block ≠ g) : w'.cell? p = w.cell? p :=
  World.cell?_of_block (h.block p.block hp (fun e => hne (by injection e)))
theorem St.stepA {B ba bb ga gb m m' : Nat} {A : Option Addr} {n : Nat} {f : Nat → Int} {E1 E2 E1' : Nat → Nat} {w wr wx : World} (h : St B ba bb ga gb m m' A n f E1 E2 w wr)
    (hg : wr.grownBy wx (some ga)) (hr : wx.rowIs ga 5 m (fun i => .int .u8 (E1' i))) : St B ba bb ga gb m m' A n f E1' E2 w wx where
  ca := (cell_grown hg (p := ⟨ba, 0, none⟩) h.lt.1 (fun e => h.ne.2.1 e.symm)).trans h.ca
  cb := (cell_grown hg (p := ⟨bb, 0, none⟩) h.lt.2 (fun e => h.ne.2.2.1 e.symm)).trans h.cb
  ra := hr
  rb := h.rb.of_block (hg.block gb h.rb.lt (fun e => h.ne.1 (by injection e with e; exact e.symm)))
  row := h.row.keep fun p hp => cell_grown hg (by have := h.lt.1; have := h.Bs.1; omega) (by have := h.Bs.2.2.1; omega)
  bel := h.bel.trans ⟨hg.os, hg.tape, hg.output, hg.size, fun k hk => hg.block k (by have := h.bel.size; omega) (fun e => by have := h.Bs.2.2.1; have := h.wB; injection e with e; omega)⟩
  wB := h.wB
  Bs := h.Bs
  ne := h.ne
  lt := ⟨Nat.lt_of_lt_of_le h.lt.1 hg.size, Nat.lt_of_lt_of_le h.lt.2 hg.size⟩
theorem St.stepB {B ba bb ga gb m m' : Nat} {A : Option Addr} {n : Nat} {f : Nat → Int} {E1 E2 E2' : Nat → Nat} {w wr wx : World} (h : St B ba bb ga gb m m' A n f E1 E2 w wr)
    (hg : wr.grownBy wx (some gb)) (hr : wx.rowIs gb 5 m' (fun i => .int .u8 (E2' i))) : St B ba bb ga gb m m' A n f E1 E2' w wx where
  ca := (cell_grown hg (p := ⟨ba, 0, none⟩) h.lt.1 (fun e => h.ne.2.2.2.1 e.symm)).trans h.ca
  cb := (cell_grown hg (p := ⟨bb, 0, none⟩) h.lt.2 (fun e => h.ne.2.2.2.2 e.symm)).trans h.cb
  ra := h.ra.of_block (hg.block ga h.ra.lt (fun e => h.ne.1 (by injection e)))
  rb := hr
  row := h.row.keep fun p hp => cell_grown hg (by have := h.lt.1; have := h.Bs.1; omega) (by have := h.Bs.2.2.2; omega)
  bel := h.bel.trans ⟨hg.os, hg.tape, hg.output, hg.size, fun k hk => hg.block k (by have := h.bel.size; omega) (fun e => by have := h.Bs.2.2.2; have := h.wB; injection e with e; omega)⟩
  wB := h.wB
  Bs := h.Bs
  ne := h.ne
  lt := ⟨Nat.lt_of_lt_of_le h.lt.1 hg.size, Nat.lt_of_lt_of_le h.lt.2 hg.size⟩
theorem only_of_drew {w w' : World} {row : Option Nat} (h : w.drew.grownBy w' row) : w.grownBy w' row := ⟨h.os, h.tape, h.output, h.size, h.block⟩
theorem St.start {w w1 w2 w3 : World} {A : Option Addr} {n : Nat} {f : Nat → Int} {m m' ga gb : Nat} (hrow : RowF w1 w1.heap.size A n (fun i => .int .u64 (f i))) (hb1 : Below w.heap.size w w1)
    (hga : w1.heap.size ≤ ga) (hra : w2.rowIs ga 5 m (fun _ => .int .u8 0)) (hb2 : Below w1.heap.size w1 w2)
    (hgb : (w2.alloc (.cells #[.slice (some ⟨ga, 0, none⟩) m m] 28)).heap.size ≤ gb) (hrb : w3.rowIs gb 5 m' (fun _ => .int .u8 0))
    (hb3 : Below (w2.alloc (.cells #[.slice (some ⟨ga, 0, none⟩) m m] 28)).heap.size (w2.alloc (.cells #[.slice (some ⟨ga, 0, none⟩) m m] 28)) w3) :
    St w1.heap.size w2.heap.size w3.heap.size ga gb m m' A n f (fun _ => 0) (fun _ => 0) w (w3.alloc (.cells #[.slice (some ⟨gb, 0, none⟩) m' m'] 28)) := by
  have s1 := hb1.size
  have s2 := hb2.size
  have s3 := hb3.size
  have la := hra.lt
  have lb := hrb.lt
  simp at s3 hgb
  have ca : w3.cell? ⟨w2.heap.size, 0, none⟩ = some (.slice (some ⟨ga, 0, none⟩) m m) := by
    rw [hb3.cell (p := ⟨w2.heap.size, 0, none⟩) (by simp)]
    simp [go_sem]
  have ra : w3.rowIs ga 5 m (fun _ => .int .u8 0) := (hra.alloc _).of_block (hb3.block ga (by simp; omega))
  exact {
    ca := by rw [World.cell?_alloc_old _ _ _ (by show w2.heap.size ≠ w3.heap.size; omega)]; exact ca
    cb := by simp [go_sem]
    ra := ra.alloc _
    rb := hrb.alloc _
    row := (((hrow.below hb2).keep fun p hp => World.cell?_alloc_old _ _ _ (by omega)).keep fun p hp => hb3.cell (by simp; omega)).keep fun p hp => World.cell?_alloc_old _ _ _ (by omega)
    bel := ((hb1.trans (hb2.mono s1)).trans (((Below.refl _ _).alloc (by omega) _).trans (hb3.mono (by simp; omega)))).alloc (by omega) _
    wB := s1
    Bs := ⟨by omega, by omega, by omega, by omega⟩
    ne := ⟨by omega, by omega, by omega, by omega, by omega⟩
    lt := ⟨by simp; omega, by simp⟩ }

set_option maxHeartbeats 1000000 in
theorem fnBitSetOrderFreeIdempotent.walk (a0 : Int) (a1 : Option Addr) (n1 c1 : Nat) (f1 : Nat → Int) (w : World) (w0 : (Lit.int .u64 a0).wf = true) (w1 : InInts .u64 w a1 n1 c1 f1) :
    Calls Try.prog 4 #[.int .u64 a0, .slice a1 n1 c1] w fun e w' => e = .returned (.bool true) ∧ Below w.heap.size w w' := by
  obtain ⟨hlo, hhi⟩ := bounds_u64 w0
  have hm := w1.max
  have hle := w1.le
  clear w0
  by_cases hN : a0 ≤ 65536
  · by_cases hn : n1 ≤ 131072
    · obtain ⟨N, rfl⟩ : ∃ N : Nat, a0 = (N : Int) := ⟨a0.toNat, by omega⟩
      have hf : ∀ i, 0 ≤ f1 i := fun i => (bounds_u64 (w1.wf i)).1
      have HF := Lib.hid hf
      have W1 := Lib.hid w1
      clear w1 hf
      unfold maxLen at hm
      go_enter Try.func4, Try.ntmps4
      go_wp2_with (go_at_call 10; refine (zzB10_true _ _ _ _ (by omega) _).mono ?_; rintro e w' ⟨rfl, rfl⟩)
      refine (clone _ _ _ f1 _ W1.out hn).mono ?_
      rintro e w1 ⟨A, c, rfl, hrow, hb1⟩
      have HR := Lib.hid hrow
      have HB := Lib.hid hb1
      clear hrow hb1
      go_wp2_with fail
      refine (newBitSet N (by omega) _).mono ?_
      rintro e w2 ⟨ga, rfl, hga, hra, hb2⟩
      have HA := Lib.hid hra
      have HB2 := Lib.hid hb2
      clear hra hb2
      go_wp2_with fail
      refine (newBitSet N (by omega) _).mono ?_
      rintro e w3 ⟨gb, rfl, hgb, hrb, hb3⟩
      have ST := Lib.hid (St.start HR.out HB.out hga HA.out HB2.out hgb hrb hb3)
      clear hgb hrb hb3 HR HB HA HB2 hga
      go_wp2_with fail
      go_loopg [29] n1 (fun g i wr => ∃ (k : Nat) (E : Nat → Nat), k ≤ n1 ∧ g = n1 - k ∧ i = .int .i64 k ∧ Bits (Upto f1 N k) E ∧ St w1.heap.size w2.heap.size w3.heap.size ga gb ((N + 7) / 8) ((N + 7) / 8) A n1 f1 E (fun _ => 0) w wr)
      case atStart => exact ⟨0, _, Nat.zero_le _, rfl, rfl, Bits.zero.congr (upto_zero f1 N), ST.out⟩
      case round =>
        obtain ⟨k, E, hk, rfl, rfl, hE, hS⟩ := hrel
        clear ST
        by_cases hlt : k < n1
        · obtain ⟨b, o, rfl, hb, hc⟩ := hS.row.at_ hlt
          have hca := hS.ca
          have HS := Lib.hid hS
          have HE := Lib.hid hE
          clear hS hE
          have hf := HF.out k
          by_cases hx : f1 k < (N : Int)
          · obtain ⟨x, hxx⟩ : ∃ x : Nat, f1 k = (x : Int) := ⟨(f1 k).toNat, by omega⟩
            rw [hxx] at hc
            have HX := Lib.hid hxx
            have hxN : x < N := by omega
            clear hf hx hxx
            go_wp2_with fail
            refine (setBit ga _ x E HE.out.lt (by omega) (by omega) _ HS.out.ra).mono ?_
            rintro e wx ⟨rfl, hrx, hgx⟩
            have HS' := Lib.hid (HS.out.stepA hgx hrx)
            clear hgx hrx HS hca hc
            go_wp2_with fail
            go_roundg (n1 - (k + 1))
            case rel => exact ⟨k + 1, _, by omega, rfl, by go_num, (HE.out.set x).congr (upto_succ HX.out hxN), HS'.out⟩
            case measure => omega
          · go_wp2_with fail
            go_roundg (n1 - (k + 1))
            case rel => exact ⟨k + 1, _, by omega, rfl, by go_num, HE.out.congr (upto_skip (by omega)), HS.out⟩
            case measure => omega
        · have hkn : k = n1 := by omega
          subst hkn
          have HS := Lib.hid hS
          have HE := Lib.hid hE
          clear hS hE
          go_wp2_with fail
          obtain ⟨wo, rfl⟩ : ∃ wo : World, wo = wr := ⟨_, rfl⟩
          go_loopg [9] k (fun g i wr => ∃ (t : Nat) (F : Nat → Nat), t ≤ k ∧ t = g ∧ i = .int .i64 ((t : Int) - 1) ∧ Bits (From f1 N k t) F ∧ St w1.heap.size w2.heap.size w3.heap.size ga gb ((N + 7) / 8) ((N + 7) / 8) A k f1 E F w wr)
          case atStart => exact ⟨k, _, Nat.le_refl _, rfl, rfl, Bits.zero.congr (from_end f1 N k), HS.out⟩
          case round =>
            obtain ⟨t, F, ht, rfl, rfl, hF, hS⟩ := hrel
            clear HS
            by_cases hlt : 0 < t
            · obtain ⟨t, rfl⟩ : ∃ t', t = t' + 1 := ⟨t - 1, by omega⟩
              rw [show ((t + 1 : Nat) : Int) - 1 = (t : Int) by omega]
              have htk : t < k := by omega
              obtain ⟨b, o, rfl, hb, hc⟩ := hS.row.at_ htk
              have hcb := hS.cb
              have HS := Lib.hid hS
              have HF2 := Lib.hid hF
              clear hS hF
              have hf := HF.out t
              by_cases hx : f1 t < (N : Int)
              · obtain ⟨x, hxx⟩ : ∃ x : Nat, f1 t = (x : Int) := ⟨(f1 t).toNat, by omega⟩
                rw [hxx] at hc
                have HX := Lib.hid hxx
                have hxN : x < N := by omega
                clear hf hx hxx
                go_wp2_with fail
                go_still_tail 5, (by kernel_rfl)
                change wpList _ _ _ _ _ wr.drew
                go_wp2_with fail
                refine (setBit gb _ x F HF2.out.lt (by omega) (by omega) _ HS.out.rb.drew).mono ?_
                rintro e wx ⟨rfl, hrx, hgx⟩
                have HS' := Lib.hid (HS.out.stepB (only_of_drew hgx) hrx)
                clear hgx hrx HS hcb hc
                go_wp2_with fail
                go_roundg t
                case rel => exact ⟨t, _, by omega, rfl, rfl, (HF2.out.set x).congr (from_succ htk HX.out hxN), HS'.out⟩
                case measure => omega
              · go_wp2_with fail
                go_roundg t
                case rel => exact ⟨t, _, by omega, rfl, rfl, HF2.out.congr (from_skip (by omega)), HS.out⟩
                case measure => omega
            · obtain rfl : t = 0 := by omega
              have HS := Lib.hid hS
              have HF2 := Lib.hid (hF.congr (from_zero f1 N k))
              clear hS hF
              go_wp2_with fail
              go_loopg [61] k (fun g i wr => ∃ (t : Nat) (E : Nat → Nat), t ≤ k ∧ g = k - t ∧ i = .int .i64 t ∧ Bits (Upto f1 N k) E ∧ St w1.heap.size w2.heap.size w3.heap.size ga gb ((N + 7) / 8) ((N + 7) / 8) A k f1 E F w wr)
              case atStart => exact ⟨0, _, Nat.zero_le _, rfl, rfl, HE.out, HS.out⟩
              case round =>
                obtain ⟨t, E, ht, rfl, rfl, hE, hS⟩ := hrel
                clear HS HE
                by_cases hlt : t < k
                · obtain ⟨b, o, rfl, hb, hc⟩ := hS.row.at_ hlt
                  have hca := hS.ca
                  have HS := Lib.hid hS
                  have HE := Lib.hid hE
                  clear hS hE
                  have hf := HF.out t
                  by_cases hx : f1 t < (N : Int)
                  · obtain ⟨x, hxx⟩ : ∃ x : Nat, f1 t = (x : Int) := ⟨(f1 t).toNat, by omega⟩
                    rw [hxx] at hc
                    have HX := Lib.hid hxx
                    have hxN : x < N := by omega
                    clear hf hx hxx
                    go_wp2_with fail
                    refine (setBit ga _ x E HE.out.lt (by omega) (by omega) _ HS.out.ra).mono ?_
                    rintro e wx ⟨rfl, hrx, hgx⟩
                    have HS' := Lib.hid (HS.out.stepA hgx hrx)
                    clear hgx hrx HS hca hc
                    go_wp2_with fail
                    go_roundg (k - (t + 1))
                    case rel => exact ⟨t + 1, _, by omega, rfl, by go_num, (HE.out.set x).congr (upto_again hlt HX.out hxN), HS'.out⟩
                    case measure => omega
                  · go_wp2_with fail
                    go_roundg (k - (t + 1))
                    case rel => exact ⟨t + 1, _, by omega, rfl, by go_num, HE.out, HS.out⟩
                    case measure => omega
                · obtain rfl := Bits.ext hE HF2.out
                  have hca := hS.ca
                  have hcb := hS.cb
                  have HS := Lib.hid hS
                  have HE := Lib.hid hE
                  clear hS hE
                  have hself : eqB ((N + 7) / 8) E ((N + 7) / 8) E = true := by simp [eqB]
                  have HSelf := Lib.hid hself
                  clear hself
                  go_wp2_with fail
                  refine (equals ga gb _ _ E E true HSelf.out HE.out.lt HE.out.lt _ HS.out.ra HS.out.rb).mono ?_
                  rintro e wx ⟨rfl, hbx⟩
                  have HBX := Lib.hid hbx
                  have ra' := Lib.hid (HS.out.ra.of_block (hbx.block _ HS.out.ra.lt))
                  have rb' := Lib.hid (HS.out.rb.of_block (hbx.block _ HS.out.rb.lt))
                  have hca' := (hbx.cell (p := ⟨w2.heap.size, 0, none⟩) HS.out.lt.1).trans hca
                  have hcb' := (hbx.cell (p := ⟨w3.heap.size, 0, none⟩) HS.out.lt.2).trans hcb
                  clear hbx hca hcb
                  go_wp2_with fail
                  refine (equals gb ga _ _ E E true HSelf.out HE.out.lt HE.out.lt _ rb'.out ra'.out).mono ?_
                  rintro e wy ⟨rfl, hby⟩
                  have HBY := Lib.hid hby
                  clear hby
                  go_wp2_with fail
                  go_ret
                  exact ⟨rfl, (HS.out.bel.trans (HBX.out.mono HS.out.bel.size)).trans (HBY.out.mono (Nat.le_trans HS.out.bel.size HBX.out.size))⟩
    · unfold maxLen at hm
      have W1 := Lib.hid w1
      clear w1
      go_enter Try.func4, Try.ntmps4
      go_wp2_with (go_at_call 10; refine (zzB10 _ _ _ _ (by unfold maxLen; omega) _).mono ?_; rintro e w' ⟨rfl, rfl⟩)
      all_goals go_ret
      all_goals exact ⟨rfl, Below.refl _ _⟩
  · unfold maxLen at hm
    have W1 := Lib.hid w1
    clear w1
    go_enter Try.func4, Try.ntmps4
    go_wp2_with (go_at_call 10; refine (zzB10 _ _ _ _ (by unfold maxLen; omega) _).mono ?_; rintro e w' ⟨rfl, rfl⟩)
    all_goals go_ret
    all_goals exact ⟨rfl, Below.refl _ _⟩
end Go.Proofs.Ytdehakheecckeaa
