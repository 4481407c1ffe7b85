/- validateSupported. -/
import Derived.Test.YtfkchhmjfnkjbaaFmtVn
import Derived.Laws.BitsAllLaws
import Derived.Deep.RegionHeld3
import Derived.Deep.Slices
namespace Go.Proofs.YtfkchhmjfnkjbaaFmt
open Go.RowKit Go.Maps Go.Extern.Stop Go.Stop Go.Extern
set_option linter.unusedVariables false
set_option linter.unusedSimpArgs false
theorem cell_alloc_old {w : World} {a : Addr} {v : Value} (o : Obj) (h : w.cell? a = some v) : (w.alloc o).cell? a = some v :=
  (World.cell?_of_block (Below.heap_alloc _ _ _ (block_lt_of_cell h))).trans h
theorem held6 {w : World} {a0 a1 a2 a3 a4 a5 : Addr} {v0 v1 v2 v3 v4 v5 : Value} (h : w.cell? a0 = some v0 ∧ w.cell? a1 = some v1 ∧ w.cell? a2 = some v2 ∧ w.cell? a3 = some v3 ∧ w.cell? a4 = some v4 ∧ w.cell? a5 = some v5) (o : Obj) :
    (w.alloc o).cell? a0 = some v0 ∧ (w.alloc o).cell? a1 = some v1 ∧ (w.alloc o).cell? a2 = some v2 ∧ (w.alloc o).cell? a3 = some v3 ∧ (w.alloc o).cell? a4 = some v4 ∧ (w.alloc o).cell? a5 = some v5 :=
  ⟨cell_alloc_old o h.1, cell_alloc_old o h.2.1, cell_alloc_old o h.2.2.1, cell_alloc_old o h.2.2.2.1, cell_alloc_old o h.2.2.2.2.1, cell_alloc_old o h.2.2.2.2.2⟩
set_option maxRecDepth 100000 in
set_option maxHeartbeats 8000000 in
theorem validate (F : Interp) (jf cf : Ky → Option Nat) (bj bc : Nat) (hjb : ∀ k, (jf k).getD 0 < 18446744073709551616) (hcb : ∀ k, (cf k).getD 0 < 65536) (b B n : Nat) (es : En) (w : World) (hl : LogN b 0 w) (hB : B < b) (hb2 : 2 ≤ b) (hm : w.ownsMap Tryf.prog 9 (plainElem Tryf.prog 4) B n (dm es)) (hlen : es.length ≤ 4096) (hd : Dst es)
    (hT : Tabs jf cf bj bc b w) (hF : F.told.answers w.tape) :
    Calls Tryf.prog 11 #[.agg (logC b), .map (some B)] w fun e w' => ∃ a b' c d m : Nat, e = .returned (.tuple #[.int .u64 a, .int .u64 b', .int .u16 c, .int .u16 d]) ∧ Sums jf cf es a b' c d m ∧ LogN b m w' ∧ Kept b w w' := by
  have HF := Lib.hid hF
  have HL := Lib.hid hl
  have HT := Lib.hid hT
  have HM := Lib.hid hm
  have HD := Lib.hid hd
  have HJB := Lib.hid hjb
  have HCB := Lib.hid hcb
  have hbl := hl.lt
  clear hF hl hT hm hd hjb hcb
  unfold logC pt
  go_enter Tryf.func11, Tryf.ntmps11
  go_wp2_with (first
    | (at_range; refine wpList_range_own _ rfl _ 27 rfl 9 4 lawS Tryf.underlying27 _ B n _ rfl (HM.out.alloc _) ?_; intro w0 hrg0 hg0 hs0)
    | fail)
  have e1 : (w.alloc (Obj.cells (logC b) 41)).heap.size = w.heap.size + 1 := by simp
  unfold logC pt at e1
  rw [e1] at hrg0 hs0 ⊢
  have hb0 : Below w.heap.size w w0 := ((Below.refl _ w).alloc (Nat.le_refl _) _).trans ⟨hg0.os, hg0.tape, hg0.output, hg0.size, fun k hk => hg0.block k (by simp; omega) (by simp)⟩
  have HBX : Hid (w0.heap[w.heap.size]? = some (.cells (logC b) 41 (0, 0))) := Lib.hid ((hg0.block _ (by simp) (by simp)).trans (heap_alloc_new w _))
  have HK0 := Lib.hid (Kept.of_below (b := b) hb0)
  have HL0 := Lib.hid (HL.out.below hb0)
  have HRG0 := Lib.hid hrg0
  clear e1 hb0 hg0 hs0 hrg0
  go_frame
  go_loopg [4, 5, 6, 7] (size (dm es)) (fun q a1 a2 a3 a4 wr => ∃ (left : Lit → Bool) (x y z u m : Nat), a1 = .int .u64 x ∧ a2 = .int .u64 y ∧ a3 = .int .u16 z ∧ a4 = .int .u16 u ∧ Hid (wr.ranges Tryf.prog 9 (plainElem Tryf.prog 4) B (w.heap.size + 1) n (dm es) left q) ∧ Hid (Sums jf cf (dn left es) x y z u m) ∧ Hid (LogN b m wr) ∧ Hid (Kept b w wr) ∧ Hid (wr.heap[w.heap.size]? = some (.cells (logC b) 41 (0, 0))))
  case atStart => exact ⟨has (dm es), 0, 0, 0, 0, 0, rfl, rfl, rfl, rfl, HRG0, Lib.hid (by rw [dn_start]; exact Sums.nil jf cf), HL0, HK0, HBX⟩
  case round =>
    obtain ⟨left, x, y, z, u, m, rfl, rfl, rfl, rfl, HRG, HS, HLg, HK, HX⟩ := hrel
    go_wp2_with (first
      | (at_next; refine wpList_next_sb _ rfl _ rfl B (w.heap.size + 1) n es left _ rfl HRG.out ?_ ?_)
      | fail)
    · intro hc0 hl0
      go_wp2_with fail
      have hs := HS.out
      rw [dn_end hl0] at hs
      exact bodyPost_ret (v := .tuple #[.int .u64 x, .int .u64 y, .int .u16 z, .int .u16 u]) (by simp [results, Tryf.results11, go_sem]) rfl ⟨x, y, z, u, m, rfl, hs, HLg.out, HK.out⟩
    · intro s ⟨v⟩ w1 cnt1 hsz hlf hat hrg1 hlt hg1 hs1 hen
      have HS1 := Lib.hid (HS.out.step (dn_step HD.out hlf hat))
      have HK1 := Lib.hid (HK.out.next hg1 (by omega))
      have HL1 := Lib.hid (HLg.out.next hg1 (ranges_iter HRG.out))
      have HX1 : Hid (w1.heap[w.heap.size]? = some (.cells (logC b) 41 (0, 0))) := Lib.hid ((hg1.block _ (lt_of_heap HX.out) (by intro e; injection e with e; omega)).trans HX.out)
      have TF := HT.out w1 (fun g hg => HK1.out.low g (by omega) hg)
      have tj := TF.j
      have tc := TF.c
      have lj := TF.lj s hsz
      have lc := TF.lc s hsz
      have hyb : y < 18446744073709551616 := by rw [HS.out.hjm]; exact orS_lt _ 64 (fun e => HJB.out e.1) _
      have hxb : x < 18446744073709551616 := by rw [HS.out.hjf]; exact orS_lt _ 64 (fun e => by unfold JFf; split; decide; exact HJB.out e.1) _
      have hub : u < 65536 := by rw [HS.out.hcm]; exact orS_lt _ 16 (fun e => by unfold CMf; split; decide; exact HCB.out e.1) _
      have hzb : z < 65536 := by rw [HS.out.hcf]; exact orS_lt _ 16 (fun e => by unfold CFf; split; decide; split; decide; exact HCB.out e.1) _
      have hJ := HJB.out s.data.toList
      have hC := HCB.out s.data.toList
      have hmn : m < 1048576 := by
        have h1 := suS_le (NFf jf cf) (fun e => by unfold NFf; split <;> decide) (dn left es)
        have h2 := dn_len left es
        have h3 := HS.out.hn
        omega
      have HRG1 := Lib.hid hrg1
      clear hrg1 hg1 hat hlf TF
      cases hj : jf s.data.toList with
      | some X =>
        rw [hj] at lj hJ
        simp only [Option.getD_some, Option.isSome_some] at lj hJ
        have o1 : bits .or .u64 (y : Int) (X : Int) = ((X ||| y : Nat) : Int) := by rw [u64_or_nat y X hyb hJ, Nat.or_comm]
        have o2 : bits .or .u64 (x : Int) (X : Int) = ((X ||| x : Nat) : Int) := by rw [u64_or_nat x X hxb hJ, Nat.or_comm]
        cases v
        · have HS2 : Hid (Sums jf cf (dn (fun z => left z && !z.sameKey (.string s.data.toList)) es) (X ||| x) (X ||| y) z u m) := Lib.hid (by simpa [JFf, JMf, CFf, CMf, NFf, hj] using HS1.out)
          clear hJ hC hyb hxb hub hzb hsz lc tc hj
          go_wp2_with fail
          go_roundg cnt1
          case rel => exact ⟨_, _, _, _, _, _, rfl, rfl, rfl, rfl, HRG1, HS2, HL1, HK1, HX1⟩
          case measure => exact hlt
        · have HS2 : Hid (Sums jf cf (dn (fun z => left z && !z.sameKey (.string s.data.toList)) es) x (X ||| y) z u m) := Lib.hid (by simpa [JFf, JMf, CFf, CMf, NFf, hj] using HS1.out)
          clear hJ hC hyb hxb hub hzb hsz lc tc hj
          go_wp2_with fail
          go_roundg cnt1
          case rel => exact ⟨_, _, _, _, _, _, rfl, rfl, rfl, rfl, HRG1, HS2, HL1, HK1, HX1⟩
          case measure => exact hlt
      | none =>
        rw [hj] at lj
        simp only [Option.getD_none, Option.isSome_none] at lj
        cases hcc : cf s.data.toList with
        | some X =>
          rw [hcc] at lc hC
          simp only [Option.getD_some, Option.isSome_some] at lc hC
          have o1 : bits .or .u16 (u : Int) (X : Int) = ((X ||| u : Nat) : Int) := by rw [u16_or_nat u X hub hC, Nat.or_comm]
          have o2 : bits .or .u16 (z : Int) (X : Int) = ((X ||| z : Nat) : Int) := by rw [u16_or_nat z X hzb hC, Nat.or_comm]
          cases v
          · have HS2 : Hid (Sums jf cf (dn (fun z => left z && !z.sameKey (.string s.data.toList)) es) x y (X ||| z) (X ||| u) m) := Lib.hid (by simpa [JFf, JMf, CFf, CMf, NFf, hj, hcc] using HS1.out)
            clear hJ hC hyb hxb hub hzb hsz hj hcc
            go_wp2_with fail
            go_roundg cnt1
            case rel => exact ⟨_, _, _, _, _, _, rfl, rfl, rfl, rfl, HRG1, HS2, HL1, HK1, HX1⟩
            case measure => exact hlt
          · have HS2 : Hid (Sums jf cf (dn (fun z => left z && !z.sameKey (.string s.data.toList)) es) x y z (X ||| u) m) := Lib.hid (by simpa [JFf, JMf, CFf, CMf, NFf, hj, hcc] using HS1.out)
            clear hJ hC hyb hxb hub hzb hsz hj hcc
            go_wp2_with fail
            go_roundg cnt1
            case rel => exact ⟨_, _, _, _, _, _, rfl, rfl, rfl, rfl, HRG1, HS2, HL1, HK1, HX1⟩
            case measure => exact hlt
        | none =>
          rw [hcc] at lc
          simp only [Option.getD_none, Option.isSome_none] at lc
          have HS2 : Hid (Sums jf cf (dn (fun z => left z && !z.sameKey (.string s.data.toList)) es) x y z u (m + 1)) := Lib.hid (by have := HS1.out; cases v <;> simpa [JFf, JMf, CFf, CMf, NFf, hj, hcc, Nat.add_comm] using this)
          have hF' := answers_open (show F.told.answers w1.tape by rw [HK1.out.tape]; exact HF.out)
          have hx1 := HX1.out
          have l0 := Lib.cell_of_heap hx1 0
          have l1 := Lib.cell_of_heap hx1 1
          have l2 := Lib.cell_of_heap hx1 2
          have l3 := Lib.cell_of_heap hx1 3
          have l4 := Lib.cell_of_heap hx1 4
          have l5 := Lib.cell_of_heap hx1 5
          unfold logC pt at l0 l1 l2 l3 l4 l5
          simp only [List.getElem?_toArray, List.getElem?_cons_zero, List.getElem?_cons_succ] at l0 l1 l2 l3 l4 l5
          have hs1 : w.heap.size < w1.heap.size := lt_of_heap hx1
          clear hJ hC hyb hxb hub hzb hsz hx1 hj hcc
          have hgb : b + 5 ≤ w.heap.size := by omega
          have HHX := Lib.hid HX1.out
          generalize hG : w.heap.size = G at *
          go_wp2_with fail
          go_region_held3 (fun w' => w'.cell? ⟨G, 0, none⟩ = some (.func (Fn.func 12) #[] #[.pointer (some ⟨b, 0, none⟩), .pointer (some ⟨b + 3, 0, none⟩), .pointer (some ⟨b + 4, 0, none⟩), .pointer (some ⟨b + 2, 0, none⟩)]) ∧ w'.cell? ⟨G, 1, none⟩ = some (.func (Fn.func 15) #[] #[.pointer (some ⟨b + 3, 0, none⟩), .pointer (some ⟨b + 4, 0, none⟩)]) ∧ w'.cell? ⟨G, 2, none⟩ = some (.func (Fn.func 16) #[] #[.pointer (some ⟨b + 3, 0, none⟩), .pointer (some ⟨b + 2, 0, none⟩)]) ∧ w'.cell? ⟨G, 3, none⟩ = some (.func (Fn.func 17) #[] #[.pointer (some ⟨b + 3, 0, none⟩), .pointer (some ⟨b + 2, 0, none⟩)]) ∧ w'.cell? ⟨G, 4, none⟩ = some (.int .i8 3) ∧ w'.cell? ⟨G, 5, none⟩ = some (.map none))
            (first
              | assumption
              | exact ⟨by assumption, by assumption, by assumption, by assumption, by assumption, by assumption⟩
              | (refine held6 ?_ _; assumption))
            (first
              | (go_at_call 19; (refine (addErr b m _ (HL1.out.below (by repeat' (first | exact Below.refl _ _ | apply below_alloc | apply Below.drew))) hmn _ _ _).mono ?_; rintro e w2 ⟨rfl, hl2, hk2⟩; have HK2 : Hid (Kept b w1 w2) := Lib.hid ((Kept.of_below (b := b) (by repeat' (first | exact Below.refl _ _ | apply below_alloc | apply Below.drew))).trans hk2); have hx2 := ((HK2.out.block G hs1 (Or.inr hgb) (fun cur e => by rw [HHX.out] at e; injection e with e; injection e with _ e; exact absurd e (by decide)))).trans HHX.out; unfold logC pt at hx2; have f0 : w2.cell? ⟨G, 0, none⟩ = some (.func (Fn.func 12) #[] #[.pointer (some ⟨b, 0, none⟩), .pointer (some ⟨b + 3, 0, none⟩), .pointer (some ⟨b + 4, 0, none⟩), .pointer (some ⟨b + 2, 0, none⟩)]) := (by rw [Lib.cell_of_heap hx2]; rfl); have f1 : w2.cell? ⟨G, 1, none⟩ = some (.func (Fn.func 15) #[] #[.pointer (some ⟨b + 3, 0, none⟩), .pointer (some ⟨b + 4, 0, none⟩)]) := (by rw [Lib.cell_of_heap hx2]; rfl); have f2 : w2.cell? ⟨G, 2, none⟩ = some (.func (Fn.func 16) #[] #[.pointer (some ⟨b + 3, 0, none⟩), .pointer (some ⟨b + 2, 0, none⟩)]) := (by rw [Lib.cell_of_heap hx2]; rfl); have f3 : w2.cell? ⟨G, 3, none⟩ = some (.func (Fn.func 17) #[] #[.pointer (some ⟨b + 3, 0, none⟩), .pointer (some ⟨b + 2, 0, none⟩)]) := (by rw [Lib.cell_of_heap hx2]; rfl); have f4 : w2.cell? ⟨G, 4, none⟩ = some (.int .i8 3) := (by rw [Lib.cell_of_heap hx2]; rfl); have f5 : w2.cell? ⟨G, 5, none⟩ = some (.map none) := (by rw [Lib.cell_of_heap hx2]; rfl)))
              | fail)
          all_goals go_wp2_with fail
          all_goals go_roundg cnt1
          all_goals first
            | exact hlt
            | exact ⟨_, _, _, _, _, _, rfl, rfl, rfl, rfl, Lib.hid (ranges_keep HRG1.out (HK2.out.low B HRG1.out.owns.lt hB) (HK2.out.block (G + 1) HRG1.out.lt (Or.inr (by omega)) (fun cur => ranges_iter HRG1.out cur _ _))), HS2, Lib.hid hl2, Lib.hid (HK1.out.trans HK2.out), Lib.hid (by unfold logC pt; exact hx2)⟩
end Go.Proofs.YtfkchhmjfnkjbaaFmt
