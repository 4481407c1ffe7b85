/- The laid tables, as the walks want them. -/
import Derived.Test.YtfkchhmjfnkjbaaFmtVr
import Derived.Test.YtfkchhmjfnkjbaaFmtTie
import Derived.Lib.LaidIn
import Derived.ProofKit
import Derived.OpenShut
import Derived.Deep.DeepWitnessRowRef
namespace Go.Proofs.YtfkchhmjfnkjbaaFmt
open Go.RowKit Go.Maps Go.WideElems
set_option linter.unusedVariables false
set_option linter.unusedSimpArgs false
theorem gJ : Tryf.prog.globalNamed "github.com/evanw/esbuild/internal/compat.StringToJSFeature" = some 0 := by kernel_rfl
theorem gC : Tryf.prog.globalNamed "github.com/evanw/esbuild/internal/compat.StringToCSSFeature" = some 1 := by kernel_rfl
theorem tJ : (Tryf.prog.globals[0]?).map (·.type) = some 64 := by kernel_rfl
theorem tC : (Tryf.prog.globals[1]?).map (·.type) = some 66 := by kernel_rfl
/-- A table's value at a key. -/
def tabOf (D : DataW Unit) (q : IntKind) (k : Ky) : Option Nat :=
  if has D (.string k) then (match D.atKey (.string k) (.lit (.int q 0)) with | .lit (.int _ x) => some x.toNat | _ => some 0) else none
def jD : Ky → Option Nat := tabOf Rows.laid_github_com_evanw_esbuild_internal_compat_StringToJSFeature .u64
def cD : Ky → Option Nat := tabOf Rows.laid_github_com_evanw_esbuild_internal_compat_StringToCSSFeature .u16
theorem at_of_not {es : List (Lit × DataW Unit)} {k : Lit} (h : has (.map es) k = false) (z : DataW Unit) : DataW.atKey (.map es) k z = z := by
  rw [has_eq] at h
  unfold DataW.atKey
  have : es.find? (fun p => p.1.sameKey k) = none := by
    rw [List.find?_eq_none]
    intro p hp hs
    rw [List.any_eq_false] at h
    exact h p hp hs
  simp only [this]
/-- What a look-up gives, in whatever world holds the table. -/
theorem look_tab {t e : TypeId} {q : IntKind} (ht : Tryf.prog.underlying t = some (.map 9 e)) (he : Tryf.prog.underlying e = some (.int q)) (hz : ∀ w, (zeroValue e).run Tryf.prog w = .ok (.int q 0) w) (hw0 : (Lit.int q 0).wf = true) (hq : ∀ x, (Lit.int q x).wf = true → 0 ≤ x)
    {w : World} {b n : Nat} {es : List (Lit × DataW Unit)} (h : w.ownsMap Tryf.prog 9 (plainElem Tryf.prog e) b n (.map es)) (s : ByteArray) (hs : s.size ≤ maxLen) :
    (Instr.lookup t (.map (some b)) (.string s) true).run Tryf.prog w = .ok (.tuple #[.int q (((tabOf (.map es) q s.data.toList).getD 0 : Nat) : Int), .bool (tabOf (.map es) q s.data.toList).isSome]) w := by
  obtain ⟨v, ps, hrun, hR⟩ := h.look_ok lawS ht (hz w) (plainElem_int he hw0) (Go.WideMaps.keyOf_string_mk Tryf.underlying9 hs)
  obtain ⟨x, rfl, hx, hwf⟩ := plainElem_int_inv he hR
  have hx1 : DataW.atKey (.map es) (.string s.data.toList) (.lit (.int q 0)) = .lit (.int q x) := congrArg Prod.fst hx
  have hx0 := hq x hwf
  rw [hrun]
  unfold tabOf
  by_cases hh : has (.map es) (.string s.data.toList) = true
  case neg =>
    have hf : has (.map es) (.string s.data.toList) = false := by simpa using hh
    rw [at_of_not hf] at hx1
    have hx2 : x = 0 := by
      have := DataW.lit.inj hx1
      exact (Lit.int.inj this).2.symm
    subst hx2
    rw [hf]
    rfl
  case pos =>
    rw [hh]
    simp only [if_true, hx1, Option.getD_some, Option.isSome_some]
    rw [Int.toNat_of_nonneg hx0]
theorem wf64 (x : Int) (h : (Lit.int .u64 x).wf = true) : 0 ≤ x := by
  have e1 : IntKind.u64.min = 0 := by decide
  simp [Lit.wf, e1] at h
  omega
theorem wf16 (x : Int) (h : (Lit.int .u16 x).wf = true) : 0 ≤ x := by
  have e1 : IntKind.u16.min = 0 := by decide
  simp [Lit.wf, e1] at h
  omega
theorem tabs_of_laid {W : World} (h : laidMetH Tryf.prog Rows.fnValidateSupportedFlipAndKnownNamesRow.laid W) : ∃ bj bc L, 2 ≤ L ∧ L ≤ W.heap.size ∧ Tabs jD cD bj bc L W := by
  rw [MakeChecks.laidMetH_plain _ _ _ (by kernel_rfl)] at h
  obtain ⟨ps, ⟨g1, t1, cs1, fu1, p1, q1, a1, b1, c1, d1, ⟨g2, t2, cs2, fu2, p2, q2, a2, b2, c2, d2, ⟨g3, t3, cs3, fu3, p3, q3, a3, b3, c3, d3, _, _⟩, _⟩, _⟩, _⟩ := h
  clear a1 b1 c1 d1
  obtain rfl := Option.some.inj (gC.symm.trans a2)
  obtain rfl := Option.some.inj (gJ.symm.trans a3)
  obtain rfl := Option.some.inj (tC.symm.trans b2)
  obtain rfl := Option.some.inj (tJ.symm.trans b3)
  rcases open_map Tryf.underlying66 d2 with ⟨_, hx⟩ | ⟨bc, esc, clc, mc, rfl, hcs, hbc, _, Fc, hxc⟩
  · simp [Rows.laid_github_com_evanw_esbuild_internal_compat_StringToCSSFeature] at hx
  rcases open_map Tryf.underlying64 d3 with ⟨_, hx⟩ | ⟨bj, esj, clj, mj, rfl, hjs, hbj, _, Fj, hxj⟩
  · simp [Rows.laid_github_com_evanw_esbuild_internal_compat_StringToJSFeature] at hx
  have oc := World.ownsMap_of_fit (R := plainElem Tryf.prog 31) hbc Fc (fun x _ z hz => elemAt_plainElem_int Tryf.underlying31 hz)
  have oj := World.ownsMap_of_fit (R := plainElem Tryf.prog 29) hbj Fj (fun x _ z hz => elemAt_plainElem_int Tryf.underlying29 hz)
  simp only [Prod.mk.injEq] at hxc hxj
  rw [← hxc.1] at oc
  rw [← hxj.1] at oj
  have cc : W.cell? ⟨1, 0, none⟩ = some (.map (some bc)) := by
    have := World.var?_cell a2 c2 0
    rw [Array.eq_one_of_toList hcs] at this
    simpa using this
  have cj : W.cell? ⟨0, 0, none⟩ = some (.map (some bj)) := by
    have := World.var?_cell a3 c3 0
    rw [Array.eq_one_of_toList hjs] at this
    simpa using this
  have l1 := block_lt_of_cell cc
  have l0 := block_lt_of_cell cj
  have lc := oc.lt
  have lj := oj.lt
  refine ⟨bj, bc, W.heap.size, by simp at l1; omega, Nat.le_refl _, fun w' hk => ?_⟩
  have oc' : w'.ownsMap (H := Unit) Tryf.prog 9 (plainElem Tryf.prog 31) bc esc.size Rows.laid_github_com_evanw_esbuild_internal_compat_StringToCSSFeature := by
    obtain ⟨es, clock, h1, rest⟩ := oc
    exact ⟨es, clock, (hk _ lc).trans h1, rest⟩
  have oj' : w'.ownsMap (H := Unit) Tryf.prog 9 (plainElem Tryf.prog 29) bj esj.size Rows.laid_github_com_evanw_esbuild_internal_compat_StringToJSFeature := by
    obtain ⟨es, clock, h1, rest⟩ := oj
    exact ⟨es, clock, (hk _ lj).trans h1, rest⟩
  exact ⟨(World.cell?_of_block (a := ⟨0, 0, none⟩) (hk 0 l0)).trans cj, (World.cell?_of_block (a := ⟨1, 0, none⟩) (hk 1 l1)).trans cc,
    fun s hs => look_tab Tryf.underlying64 Tryf.underlying29 (fun w => by kernel_rfl) (by decide) wf64 oj' s hs,
    fun s hs => look_tab Tryf.underlying66 Tryf.underlying31 (fun w => by kernel_rfl) (by decide) wf16 oc' s hs⟩
end Go.Proofs.YtfkchhmjfnkjbaaFmt
