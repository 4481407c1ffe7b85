/- strings.Builder: copyCheck, WriteByte, WriteString over this program (after the shelf's own walks). -/
import Derived.Test.YtcjbnieeoggfkaaFmtRows
import Derived.Test.YtcjbnieeoggfkaaFmtMem
import Derived.WalkKit
import Derived.WalkLawsBesides
import Derived.WalkSpells
import Derived.Outline
import Derived.OwnWalk
import Derived.Lib.Builder
import Derived.Lib.AppendStr
import Derived.Lib.Strings
namespace Go.Proofs.YtcjbnieeoggfkaaFmt
open Go.RowKit
set_option linter.unusedVariables false
set_option linter.unusedSimpArgs false

theorem Tryf.info5 : (Tryf.prog.info? 5).map (fun i => (i.zero, i.size, i.bytes)) = some (some (.int .u8 0), 1, 1) := by kernel_rfl
theorem Tryf.info30 : (Tryf.prog.info? 30).map (fun i => i.size) = some 2 := by kernel_rfl
theorem Tryf.lies30 : liesAt Tryf.prog Tryf.prog.depth 30 (2 / Tryf.prog.cellsOf 30) 0 30 1 = true := by kernel_rfl

/-- Blocks of other types stay as they were. -/
def Apart (w w' : World) : Prop := ∀ (g : Nat) (cs : Array Value) (t : Nat) (fr : Nat × Nat), t ≠ 30 → t ≠ 5 → w.heap[g]? = some (.cells cs t fr) → w'.heap[g]? = some (.cells cs t fr)
theorem Apart.refl (w : World) : Apart w w := fun _ _ _ _ _ _ h => h
theorem Apart.trans {a b c : World} (h : Apart a b) (k : Apart b c) : Apart a c := fun g cs t fr h1 h2 hh => k g cs t fr h1 h2 (h g cs t fr h1 h2 hh)
theorem blk_lt {w : World} {g : Nat} {o : Obj} (h : w.heap[g]? = some o) : g < w.heap.size := by
  rcases Nat.lt_or_ge g w.heap.size with hlt | hge
  · exact hlt
  · rw [Array.getElem?_eq_none hge] at h; cases h
theorem Apart.alloc {a b : World} (h : Apart a b) (o : Obj) : Apart a (b.alloc o) := fun g cs t fr h1 h2 hh => by
  have := h g cs t fr h1 h2 hh
  rw [Below.heap_alloc _ _ _ (blk_lt this)]; exact this
theorem Apart.set {a b : World} (h : Apart a b) {p : Addr} {ct : Array Value} {T : Nat} {fr : Nat × Nat} (hp : b.heap[p.block]? = some (.cells ct T fr)) (hT : T = 30 ∨ T = 5) (v : Value) : Apart a (b.setCell p v) := fun g cs t fr' h1 h2 hh => by
  have hg := h g cs t fr' h1 h2 hh
  rw [Below.heap_setCell _ _ _ _ (fun e => ?_)]
  · exact hg
  · subst e
    rw [hg] at hp
    injection hp with hp
    injection hp with _ ht
    rcases hT with rfl | rfl
    · exact h1 ht
    · exact h2 ht
theorem Apart.grown {a b c : World} (h : Apart a b) {B n : Nat} {v : Value} {xs : List Value} (ho : b.ownsRow B 5 1 v n xs) (hg : b.grownBy c v.ownBlock) : Apart a c := fun g cs t fr h1 h2 hh => by
  have hb := h g cs t fr h1 h2 hh
  rw [hg.block g (blk_lt hb) (fun e => ?_)]
  · exact hb
  · rcases ho.2 with ⟨rfl, _⟩ | ⟨g', cap, cur, rfl, _, hh', _⟩
    · simp [Value.ownBlock] at e
    · have : g = g' := by simpa [Value.ownBlock] using e
      subst this
      rw [hb] at hh'
      injection hh' with hh'
      injection hh' with _ ht
      exact h2 ht
theorem copyCheck (B b : Nat) (bs : List Value) (w : World) (h : Lib.IsBuilder 30 5 B b bs w) :
    Calls Tryf.prog 14 #[.pointer (some ⟨b, 0, none⟩)] w fun e w' => e = .returned (.tuple #[]) ∧ Lib.BuilderAt 30 5 B b (.pointer (some ⟨b, 0, none⟩)) bs w' ∧ Below B w w' ∧ Apart w w' := by
  obtain ⟨j, hj, hjs⟩ := Option.map_eq_some_iff.1 Tryf.info30
  rcases h with h | h
  · have h0 := h.cell0
    have hsh := h.shape
    have hfz := h.frozen0
    have HS := Lib.hid hsh
    have HJ := Lib.hid hj
    have HH := Lib.hid h
    clear h hsh hj
    go_enter Tryf.func14, Tryf.ntmps14
    go_wp2
    rw [Lib.run_to_unsafe w ⟨b, 0, none⟩ Tryf.underlying27 Tryf.underlying40 HJ.out (by rw [hjs]; decide) HS.out (Nat.zero_lt_succ 1)]
    simp only [Result.andThen]
    rw [Oper.upon_value]
    go_wp2
    rw [run_callFunc_extern Tryf.func15 (by kernel_rfl) (by kernel_rfl) (by kernel_rfl) (e := Extern.AbiNoEscape.same) (by kernel_rfl)]
    rw [Lib.run_noEscape]
    simp only [Result.andThen]
    rw [Oper.upon_value]
    go_wp2
    rw [Lib.run_from_unsafe w ⟨b, 0, none⟩ Tryf.underlying40 Tryf.underlying27 HJ.out HS.out Tryf.lies30]
    simp only [Result.andThen]
    rw [Oper.upon_value]
    go_wp2
    go_end0
    exact ⟨rfl, HH.out.used _, (Below.refl B w).setCell (p := ⟨b, 0, none⟩) HH.out.1 _, by obtain ⟨_, v, hv, _⟩ := HH.out; exact (Apart.refl w).set (p := ⟨b, 0, none⟩) hv (.inl rfl) _⟩
  · have h0 := h.cell0
    have HH := Lib.hid h
    have HJ := Lib.hid hj
    clear h hj
    go_enter Tryf.func14, Tryf.ntmps14
    go_wp2
    rw [Lib.run_neq_ptr_same w _ Tryf.underlying27 HJ.out]
    go_wp2
    go_end0
    exact ⟨rfl, HH.out, Below.refl B _, Apart.refl _⟩

def Wrote (B b : Nat) (bs : List Value) (v : Value) (w : World) (e : Ending) (w' : World) : Prop := e = .returned v ∧ Lib.BuilderAt 30 5 B b (.pointer (some ⟨b, 0, none⟩)) bs w' ∧ Below B w w' ∧ Apart w w'
set_option maxHeartbeats 1000000 in
theorem writeString (B b : Nat) (bs : List Value) (s : ByteArray) (w : World) (h : Lib.IsBuilder 30 5 B b bs w) (hlen : bs.length + s.size ≤ 140737488355328) (hBw : B ≤ w.heap.size) :
    Calls Tryf.prog 10 #[.pointer (some ⟨b, 0, none⟩), .string s] w (Wrote B b (bs ++ Lib.strCells s) (.tuple #[.int .i64 s.size, .nilIface]) w) := by
  obtain ⟨i0, hi, hz0, hz1, hz2⟩ := info_parts Tryf.info5
  have HI := Lib.hid hi
  have HZ0 := Lib.hid hz0
  have HZ1 := Lib.hid hz1
  have HZ2 := Lib.hid hz2
  have HH := Lib.hid h
  clear hi hz0 hz1 hz2 h
  go_enter Tryf.func10, Tryf.ntmps10
  go_wp2_with (go_at_call 14; refine (copyCheck B b bs _ HH.out).mono ?_)
  rintro e w1 ⟨rfl, h1, hb1, hap⟩
  have HAP := Lib.hid hap
  clear hap
  have H1 := Lib.hid h1
  obtain ⟨hB, v, hbk, hown, hne⟩ := h1
  have c1 : w1.cell? ⟨b, 1, none⟩ = some v := by rw [Lib.cell_of_heap hbk]; rfl
  have HOWN := Lib.hid hown
  have HNE := Lib.hid hne
  have HBK := Lib.hid hbk
  have HB1 := Lib.hid hb1
  have hw1 := hb1.size
  clear hown hne hbk hb1
  go_wp2_with (at_builtin; refine Lib.wpList_append_own_string _ rfl (.tmp 12) (.tmp 13) 28 9 rfl B 5 i0 Tryf.underlying28 Tryf.underlying9 HI.out HZ0.out HZ1.out HZ2.out _ _ _ rfl HOWN.out s rfl (by unfold maxLen; omega) (by omega) (by omega) ?_)
  intro v' w2 hown' hgrow hnil
  have hlt : b < w1.heap.size := H1.out.lt
  have hb2 : w2.heap[b]? = some (.cells #[.pointer (some ⟨b, 0, none⟩), v] 30 (0, 0)) := by
    rw [hgrow.block b hlt (fun e => HNE.out e.symm)]
    exact HBK.out
  have d1 : w2.cell? ⟨b, 1, none⟩ = some v := by rw [Lib.cell_of_heap hb2]; rfl
  have f1 : w2.frozen? ⟨b, 1, none⟩ = false := Lib.frozen_of_heap hb2 1
  obtain ⟨ao, n', cap, rfl⟩ : ∃ ao n' cap, v' = .slice ao n' cap := by
    rcases hown'.2 with ⟨h0, _⟩ | ⟨g, cap, cur, hv, _⟩
    · exact ⟨_, _, _, h0⟩
    · exact ⟨_, _, _, hv⟩
  have HO := Lib.hid hown'
  have HG := Lib.hid hgrow
  have HB2 := Lib.hid hb2
  clear hown' hgrow hb2 hnil
  go_wp2_with fail
  go_ret2
  refine ⟨rfl, ?_, ?_, ?_⟩
  · exact Lib.BuilderAt.put (T := 30) (e := 5) hB HB2.out (bs' := bs ++ Lib.strCells s) (by rw [List.length_append, Lib.strCells_length]; exact HO.out) (by decide)
  · exact (HB1.out.grown HG.out (by omega) (fun k hk => (HOWN.out.lt k hk).1)).setCell (p := ⟨b, 1, none⟩) hB _
  · exact (HAP.out.grown HOWN.out HG.out).set (p := ⟨b, 1, none⟩) HB2.out (.inl rfl) _
end Go.Proofs.YtcjbnieeoggfkaaFmt
