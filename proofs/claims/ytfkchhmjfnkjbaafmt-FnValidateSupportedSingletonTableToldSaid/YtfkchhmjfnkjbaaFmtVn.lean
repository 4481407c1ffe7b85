/- validateSupported: words for its loop over a map. -/
import Derived.Test.YtfkchhmjfnkjbaaFmtVa
import Derived.Test.YtfkchhmjfnkjbaaFmtVm
import Derived.Maps.RangeWalk
import Derived.Maps.OwnSet
import Derived.Maps.OwnOps
import Derived.Stop.CallBack
import Derived.Stop.IfaceNil
import Derived.Stop.Told
import Derived.Stop.Texts
import GoSem.ClaimData
namespace Go.Proofs.YtfkchhmjfnkjbaaFmt
open Go.RowKit Go.Maps Go.Extern.Stop Go.Stop Go.Extern
set_option linter.unusedVariables false
set_option linter.unusedSimpArgs false
@[go_sem] theorem Tryf.callS (args : Array Value) (w : World) : (callFunc 20 args).run Tryf.prog w = ((FmtStop.sprintf #[9, 132] #[9] args).run Tryf.prog w).andThen fun v w' => .ok (.value v) w' :=
  run_callFunc_extern Tryf.func20 (by kernel_rfl) (by kernel_rfl) (by kernel_rfl) (by kernel_rfl) args w
@[go_sem] theorem Tryf.guard (name : String) (w : World) : (FmtStop.guard name).run Tryf.prog w = .ok () w := by kernel_rfl
@[go_sem] theorem Tryf.fmtq : FmtStop.printed? ⟨#[37, 113, 32, 105, 115, 32, 110, 111, 116, 32, 97, 32, 118, 97, 108, 105, 100, 32, 102, 101, 97, 116, 117, 114, 101, 32, 110, 97, 109, 101, 32, 102, 111, 114, 32, 116, 104, 101, 32, 34, 115, 117, 112, 112, 111, 114, 116, 101, 100, 34, 32, 115, 101, 116, 116, 105, 110, 103]⟩ 1 = some [(0, 113, false)] := by kernel_rfl
@[go_sem] theorem Tryf.fmtqr (w : World) : (FmtDoors.printed ⟨#[37, 113, 32, 105, 115, 32, 110, 111, 116, 32, 97, 32, 118, 97, 108, 105, 100, 32, 102, 101, 97, 116, 117, 114, 101, 32, 110, 97, 109, 101, 32, 102, 111, 114, 32, 116, 104, 101, 32, 34, 115, 117, 112, 112, 111, 114, 116, 101, 100, 34, 32, 115, 101, 116, 116, 105, 110, 103]⟩ 1).run Tryf.prog w = .ok [(0, 113, false)] w := by kernel_rfl
def shapeS : List UInt8 := [12, 6, 0, 0, 0, 0, 0, 0, 0, 115, 116, 114, 105, 110, 103]
@[go_sem] theorem Tryf.op_113 (name : String) (x : ByteArray) (w : World) : (FmtStop.operand name false 113 false (.iface 9 (.string x))).run Tryf.prog w = .ok (shapeS, FmtStop.pack x.data.toList) w := by kernel_rfl

theorem plainElem_bool_inv {H : Type} {P : Program} {e : TypeId} (he : P.underlying e = some .bool) {v : Value} {z : DataW H × List MemPlace} (h : plainElem P e v = some z) : ∃ b, v = .bool b ∧ z = (.lit (.bool b), []) := by
  unfold plainElem at h
  rw [he] at h
  cases v <;> simp at h
  exact ⟨_, rfl, h.symm⟩
theorem keyOf_string_inv {P : Program} {k : TypeId} (hk : P.underlying k = some .string) {key : Value} {kl : Lit} (h : keyOf P k key = some kl) : ∃ s : ByteArray, key = .string s ∧ kl = .string s.data.toList ∧ s.size ≤ maxLen := by
  cases key <;> simp [keyOf, hk, mapKey] at h
  exact ⟨_, rfl, h.2.symm, h.1⟩
theorem lawS : Keyed Tryf.prog 9 := string_keyed Tryf.underlying9
/-- A bool that simp does not part. -/
structure Bx where
  b : Bool
theorem wpList_next_sb (w : World) {ops : Array Oper} {rest : List Oper} {o : Oper} {a : Act} {Q : Exit → Act → World → Prop} (hg : o.guard = none) (it : Operand) (hop : o.op = Op.next it false) (b r n : Nat) (es : En) (left : Lit → Bool) (cnt : Nat)
    (hit : a.eval it = .pointer (some ⟨r, 0, none⟩)) (h : w.ranges Tryf.prog 9 (plainElem Tryf.prog 4) b r n (dm es) left cnt)
    (hDone : cnt = 0 → (∀ kl, left kl = false) → wpList Tryf.prog ops Q rest (a.put o.dst (.tuple #[.bool false])) w)
    (hMore : ∀ (s : ByteArray) (v : Bx) (w' : World) (cnt' : Nat), s.size ≤ maxLen → left (.string s.data.toList) = true → (∀ zd, (dm es).atKey (.string s.data.toList) zd = .lit (.bool v.b)) → w'.ranges Tryf.prog 9 (plainElem Tryf.prog 4) b r n (dm es) (fun z => left z && !z.sameKey (.string s.data.toList)) cnt' → cnt' < cnt →
      w.grownBy w' (some r) → w'.heap.size = w.heap.size → (Instr.entry (.pointer (some ⟨r, 0, none⟩))).run Tryf.prog w' = .ok (.tuple #[.string s, .bool v.b]) w' → wpList Tryf.prog ops Q rest (a.put o.dst (.tuple #[.bool true, .string s, .bool v.b])) w') :
    wpList Tryf.prog ops Q (o :: rest) a w :=
  wpList_next_ranges w hg it hop 9 lawS (plainElem Tryf.prog 4) Value.string (fun x : Bx => Value.bool x.b) (fun key kl hkey => by obtain ⟨x, rfl, _⟩ := keyOf_string_inv Tryf.underlying9 hkey; exact ⟨x, rfl⟩) (fun v y hv => by obtain ⟨c, rfl, _⟩ := plainElem_bool_inv Tryf.underlying4 hv; exact ⟨⟨c⟩, rfl⟩)
    b r n (dm es) left cnt hit h hDone (fun x c kl y w' cnt' hkey hlk hv hat hrg hlt hgr hsz hen => by
      obtain ⟨x', ex, rfl, hwx⟩ := keyOf_string_inv Tryf.underlying9 hkey
      cases ex
      obtain ⟨c', ec, rfl⟩ := plainElem_bool_inv Tryf.underlying4 hv
      cases ec
      exact hMore x c w' cnt' hwx hlk hat hrg hlt hgr hsz hen)
theorem ranges_keep {w w' : World} {b r n cnt : Nat} {D : DataW Unit} {left : Lit → Bool} (h : w.ranges Tryf.prog 9 (plainElem Tryf.prog 4) b r n D left cnt) (hb : w'.heap[b]? = w.heap[b]?) (hr : w'.heap[r]? = w.heap[r]?) : w'.ranges Tryf.prog 9 (plainElem Tryf.prog 4) b r n D left cnt := by
  obtain ⟨es, clock, since, seen, c0, h1, F, hs, hD, h2, rest⟩ := h
  exact ⟨es, clock, since, seen, c0, hb.trans h1, F, hs, hD, hr.trans h2, rest⟩
theorem ranges_iter {w : World} {b r n cnt : Nat} {D : DataW Unit} {left : Lit → Bool} (h : w.ranges Tryf.prog 9 (plainElem Tryf.prog 4) b r n D left cnt) : ∀ cur t fr, w.heap[r]? ≠ some (.cells cur t fr) := by
  obtain ⟨es, clock, since, seen, c0, h1, F, hs, hD, h2, rest⟩ := h
  intro cur t fr e
  rw [h2] at e
  cases e
theorem ownsMap_keep {w w' : World} {b n : Nat} {D : DataW Unit} (h : w.ownsMap Tryf.prog 9 (plainElem Tryf.prog 4) b n D) (hb : w'.heap[b]? = w.heap[b]?) : w'.ownsMap Tryf.prog 9 (plainElem Tryf.prog 4) b n D := by
  obtain ⟨es, clock, h1, rest⟩ := h
  exact ⟨es, clock, hb.trans h1, rest⟩
theorem LogN.next {b n r : Nat} {w w' : World} (h : LogN b n w) (hg : w.grownBy w' (some r)) (hr : ∀ cur t fr, w.heap[r]? ≠ some (.cells cur t fr)) : LogN b n w' := by
  obtain ⟨A, c, xs, hm, ho, hx⟩ := h.m
  obtain ⟨he, hh⟩ := h.h
  have key : ∀ {g : Nat} {cur t fr}, w.heap[g]? = some (.cells cur t fr) → w'.heap[g]? = some (.cells cur t fr) := fun {g cur t fr} e => (hg.block g (lt_of_heap e) (fun q => by injection q with q; subst q; exact hr _ _ _ e)).trans e
  refine ⟨key h.k, ⟨A, c, xs, key hm, ?_, hx⟩, key h.x, he, key hh⟩
  obtain ⟨h1, h2⟩ := ho
  refine ⟨h1, h2.imp id fun ⟨g, cap, cur, hv, hb, hgg, rest⟩ => ⟨g, cap, cur, hv, hb, key hgg, rest⟩⟩
theorem Kept.next {b r : Nat} {a w w' : World} (h : Kept b a w) (hg : w.grownBy w' (some r)) (hr : a.heap.size ≤ r) : Kept b a w' :=
  ⟨hg.os.trans h.os, hg.tape.trans h.tape, hg.output.trans h.output, Nat.le_trans h.size hg.size, fun g hlt hb ht => (hg.block g (Nat.lt_of_lt_of_le hlt h.size) (fun q => by injection q with q; omega)).trans (h.block g hlt hb ht), fun g hlt hb => (hg.block g (Nat.lt_of_lt_of_le hlt h.size) (fun q => by injection q with q; omega)).trans (h.low g hlt hb)⟩
/-- The two tables of names. -/
structure TFacts (jf cf : Ky → Option Nat) (bj bc : Nat) (w : World) : Prop where
  j : w.cell? ⟨0, 0, none⟩ = some (.map (some bj))
  c : w.cell? ⟨1, 0, none⟩ = some (.map (some bc))
  lj : ∀ s : ByteArray, s.size ≤ maxLen → (Instr.lookup 64 (.map (some bj)) (.string s) true).run Tryf.prog w = .ok (.tuple #[.int .u64 (((jf s.data.toList).getD 0 : Nat) : Int), .bool (jf s.data.toList).isSome]) w
  lc : ∀ s : ByteArray, s.size ≤ maxLen → (Instr.lookup 66 (.map (some bc)) (.string s) true).run Tryf.prog w = .ok (.tuple #[.int .u16 (((cf s.data.toList).getD 0 : Nat) : Int), .bool (cf s.data.toList).isSome]) w
def Tabs (jf cf : Ky → Option Nat) (bj bc L : Nat) (w : World) : Prop := ∀ w', (∀ g, g < L → w'.heap[g]? = w.heap[g]?) → TFacts jf cf bj bc w'
theorem Tabs.keep {jf cf : Ky → Option Nat} {bj bc L : Nat} {w w' : World} (h : Tabs jf cf bj bc L w) (hk : ∀ g, g < L → w'.heap[g]? = w.heap[g]?) : Tabs jf cf bj bc L w' := fun w'' h' => h w'' fun g hg => (h' g hg).trans (hk g hg)
def JMf (jf : Ky → Option Nat) (e : Ky × Bool) : Nat := (jf e.1).getD 0
def JFf (jf : Ky → Option Nat) (e : Ky × Bool) : Nat := if e.2 then 0 else (jf e.1).getD 0
def CMf (jf cf : Ky → Option Nat) (e : Ky × Bool) : Nat := if (jf e.1).isSome then 0 else (cf e.1).getD 0
def CFf (jf cf : Ky → Option Nat) (e : Ky × Bool) : Nat := if e.2 then 0 else if (jf e.1).isSome then 0 else (cf e.1).getD 0
def NFf (jf cf : Ky → Option Nat) (e : Ky × Bool) : Nat := if (jf e.1).isSome || (cf e.1).isSome then 0 else 1
/-- What the loop has gathered. -/
structure Sums (jf cf : Ky → Option Nat) (es : En) (a b c d m : Nat) : Prop where
  hjf : a = orS (JFf jf) es
  hjm : b = orS (JMf jf) es
  hcf : c = orS (CFf jf cf) es
  hcm : d = orS (CMf jf cf) es
  hn : m = suS (NFf jf cf) es
theorem Sums.nil (jf cf : Ky → Option Nat) : Sums jf cf [] 0 0 0 0 0 := ⟨rfl, rfl, rfl, rfl, rfl⟩
theorem Sums.step {jf cf : Ky → Option Nat} {es es' : En} {e : Ky × Bool} {a b c d m : Nat} (h : Sums jf cf es a b c d m) (hp : es'.Perm (e :: es)) : Sums jf cf es' (JFf jf e ||| a) (JMf jf e ||| b) (CFf jf cf e ||| c) (CMf jf cf e ||| d) (NFf jf cf e + m) := by
  obtain ⟨h1, h2, h3, h4, h5⟩ := h
  subst h1 h2 h3 h4 h5
  exact ⟨(orS_perm _ hp).symm, (orS_perm _ hp).symm, (orS_perm _ hp).symm, (orS_perm _ hp).symm, (suS_perm _ hp).symm⟩
end Go.Proofs.YtfkchhmjfnkjbaaFmt
