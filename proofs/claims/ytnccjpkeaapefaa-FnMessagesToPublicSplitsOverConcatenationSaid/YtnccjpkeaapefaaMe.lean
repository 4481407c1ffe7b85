/- Two public messages that read alike are the same to zzSameMsg. -/
import Derived.Test.YtnccjpkeaapefaaMc
import Derived.Test.YtnccjpkeaapefaaMem
namespace Go.Proofs.Ytnccjpkeaapefaa
open Go.RowKit
set_option linter.unusedVariables false
set_option linter.unusedSimpArgs false
/-- A public message. -/
structure MsgP where
  id : ByteArray
  plugin : ByteArray
  text : ByteArray
  loc : Option PubA
  n : Nat
  T : Nat → ByteArray
  O : Nat → Option PubA
def IsNotes (w : World) (Z : Nat → Prop) (v : Value) (n : Nat) (T : Nat → ByteArray) (O : Nat → Option PubA) : Prop :=
  (n = 0 ∧ v = .slice none 0 0) ∨ (0 < n ∧ ∃ g c, v = .slice (some ⟨g, 0, none⟩) n c ∧ Z g ∧ g < w.heap.size ∧ ∀ j, j < n → w.cell? ⟨g, j * 2, none⟩ = some (.string (T j)) ∧ ∃ vl, w.cell? ⟨g, j * 2 + 1, none⟩ = some vl ∧ IsLoc w Z vl (O j))
structure IsMsg (w : World) (Z : Nat → Prop) (cs : Array Value) (m : MsgP) : Prop where
  h : ∃ vl vn, cs = #[.string m.id, .string m.plugin, .string m.text, vl, vn, .nilIface] ∧ IsLoc w Z vl m.loc ∧ IsNotes w Z vn m.n m.T m.O
theorem IsNotes.keep {w w' : World} {Z Z' : Nat → Prop} {v : Value} {n : Nat} {T : Nat → ByteArray} {O : Nat → Option PubA} (h : IsNotes w Z v n T O) (hz : ∀ g, Z g → Z' g) (hk : ∀ g, Z g → g < w.heap.size → w'.heap[g]? = w.heap[g]?) (hs : w.heap.size ≤ w'.heap.size) : IsNotes w' Z' v n T O := by
  rcases h with h | ⟨hn, g, c, rfl, hg, hlt, hc⟩
  · exact Or.inl h
  · have e : ∀ i, w'.cell? ⟨g, i, none⟩ = w.cell? ⟨g, i, none⟩ := fun i => by simp only [World.cell?, hk g hg hlt]
    refine Or.inr ⟨hn, g, c, rfl, hz g hg, Nat.lt_of_lt_of_le hlt hs, fun j hj => ?_⟩
    obtain ⟨h1, vl, h2, h3⟩ := hc j hj
    exact ⟨(e _).trans h1, vl, (e _).trans h2, h3.keep hz hk hs⟩
theorem IsMsg.keep {w w' : World} {Z Z' : Nat → Prop} {cs : Array Value} {m : MsgP} (h : IsMsg w Z cs m) (hz : ∀ g, Z g → Z' g) (hk : ∀ g, Z g → g < w.heap.size → w'.heap[g]? = w.heap[g]?) (hs : w.heap.size ≤ w'.heap.size) : IsMsg w' Z' cs m := by
  obtain ⟨vl, vn, rfl, h1, h2⟩ := h
  exact ⟨⟨vl, vn, rfl, h1.keep hz hk hs, h2.keep hz hk hs⟩⟩
def All : Nat → Prop := fun _ => True
theorem IsLoc.below {w w' : World} {Z : Nat → Prop} {v : Value} {o : Option PubA} (h : IsLoc w Z v o) (hb : Below w.heap.size w w') : IsLoc w' Z v o := h.keep (fun _ h => h) (fun g _ hg => hb.block g hg) hb.size
theorem IsNotes.below {w w' : World} {Z : Nat → Prop} {v : Value} {n : Nat} {T : Nat → ByteArray} {O : Nat → Option PubA} (h : IsNotes w Z v n T O) (hb : Below w.heap.size w w') : IsNotes w' Z v n T O := h.keep (fun _ h => h) (fun g _ hg => hb.block g hg) hb.size
set_option maxHeartbeats 4000000 in
theorem sameMsg (cs cs' : Array Value) (Z Z' : Nat → Prop) (m : MsgP) (w : World) (h : IsMsg w Z cs m) (h' : IsMsg w Z' cs' m) (hn : m.n ≤ 1048576) :
    Calls Try.prog 9 #[.agg cs, .agg cs'] w fun e w' => e = .returned (.bool true) ∧ Below w.heap.size w w' := by
  obtain ⟨vl, vn, rfl, hl, hno⟩ := h
  obtain ⟨vl', vn', rfl, hl', hno'⟩ := h'
  have hb2 : ∀ o o' : Obj, Below w.heap.size w ((w.alloc o).alloc o') := fun o o' => ((Below.refl _ _).alloc (Nat.le_refl _) o).alloc (by simp) o'
  have hnil := fun w A n c => Lib.run_eql_slice_nil (P := Try.prog) w 33 57 A n c 0 0 Try.underlying33
  rcases hno with ⟨hz, rfl⟩ | ⟨hpos, g, c, rfl, hg, hlt, hc⟩ <;> rcases hno' with ⟨hz', rfl⟩ | ⟨hpos', g', c', rfl, hg', hlt', hc'⟩
  · go_enter Try.func9, Try.ntmps9
    go_wp2_with (go_at_call 16; refine (sameLoc vl vl' Z Z' m.loc _ ?hx ?hy).mono ?_; (case hx => exact hl.below (hb2 _ _)); (case hy => exact hl'.below (hb2 _ _)); rintro e w1 ⟨rfl, n, rfl⟩)
    go_quiet (fail)
    go_wp2_with fail
    go_loopg [5] 0 (fun g i wr => i = .int .i64 0 ∧ Below w.heap.size w wr ∧ wr.cell? ⟨w.heap.size, 4, none⟩ = some (.slice none 0 0))
    case atStart => exact ⟨rfl, below_drewN (hb2 _ _) _, by go_simp⟩
    case round =>
      obtain ⟨rfl, hb, hcl⟩ := hrel
      have HB := Lib.hid hb
      clear hb
      go_wp2_with fail
      go_ret
      exact ⟨rfl, HB.out⟩
  · omega
  · omega
  · go_enter Try.func9, Try.ntmps9
    go_wp2_with (go_at_call 16; refine (sameLoc vl vl' Z Z' m.loc _ ?hx ?hy).mono ?_; (case hx => exact hl.below (hb2 _ _)); (case hy => exact hl'.below (hb2 _ _)); rintro e w1 ⟨rfl, n, rfl⟩)
    go_quiet (fail)
    go_wp2_with fail
    go_loopg [5] m.n (fun q i wr => ∃ k : Nat, k ≤ m.n ∧ q = m.n - k ∧ i = .int .i64 k ∧ Below w.heap.size w wr ∧ wr.cell? ⟨w.heap.size, 4, none⟩ = some (.slice (some ⟨g, 0, none⟩) m.n c) ∧ wr.cell? ⟨w.heap.size + 1, 4, none⟩ = some (.slice (some ⟨g', 0, none⟩) m.n c'))
    case atStart => exact ⟨0, Nat.zero_le _, rfl, rfl, below_drewN (hb2 _ _) _, by go_simp, by go_simp⟩
    case round =>
      obtain ⟨k, hk, rfl, rfl, hb, hcl, hcl'⟩ := hrel
      by_cases hkn : k < m.n
      · obtain ⟨t1, v1, t2, i1⟩ := hc k hkn
        obtain ⟨t1', v1', t2', i1'⟩ := hc' k hkn
        have a1 := (hb.cell (p := ⟨g, k * 2, none⟩) hlt).trans t1
        have a2 := (hb.cell (p := ⟨g, k * 2 + 1, none⟩) hlt).trans t2
        have b1 := (hb.cell (p := ⟨g', k * 2, none⟩) hlt').trans t1'
        have b2 := (hb.cell (p := ⟨g', k * 2 + 1, none⟩) hlt').trans t2'
        have I1 := Lib.hid (i1.below hb)
        have I1' := Lib.hid (i1'.below hb)
        have HB := Lib.hid hb
        clear t1 t2 t1' t2' i1 i1' hb
        go_wp2_with fail
        go_quiet ((go_at_call 16; exact Calls.quiet_of (sameLoc v1 v1' Z Z' _ _ (I1.out.keep (fun _ h => h) (fun _ _ _ => rfl) (Nat.le_refl _)) (I1'.out.keep (fun _ h => h) (fun _ _ _ => rfl) (Nat.le_refl _)))))
        go_wp2_with fail
        go_roundg (m.n - (k + 1))
        case rel => exact ⟨k + 1, by omega, by omega, by go_num, below_drewN HB.out _, hcl, hcl'⟩
        case measure => omega
      · have hkk : k = m.n := by omega
        have HB := Lib.hid hb
        clear hb
        go_wp2_with fail
        go_ret
        exact ⟨rfl, HB.out⟩
end Go.Proofs.Ytnccjpkeaapefaa
