/- The two named variables read on. -/
import Derived.Test.YtfkchhmjfnkjbaaFmtVy
import Derived.ChangeVars
import Derived.ChangeOld
import Derived.Carry
namespace Go.Proofs.YtfkchhmjfnkjbaaFmt
open Go.RowKit Go.ChangeShapes Go.WideElems
set_option linter.unusedVariables false
theorem laidOutT : laidOutB Tryf.prog = true := by kernel_rfl
theorem var_keep {n : String} {g : Nat} {cs : Array Value} {W W' : World} (hg : Tryf.prog.globalNamed n = some g) (h : W.var? Tryf.prog n = some cs) (hk : ∀ k, k < W.heap.size → W'.heap[k]? = W.heap[k]?) : W'.var? Tryf.prog n = some cs := by
  simp only [World.var?, hg, Option.bind_some] at h ⊢
  cases hh : W.heap[g]? with
  | none => rw [hh] at h; cases h
  | some o => rw [hk g (lt_of_heap hh)]; exact h
theorem map_keep {H : Type} {enc : TypeId × Value → H} {W W' : World} {t e : TypeId} (ht : Tryf.prog.underlying t = some (.map 9 e)) (hr : Tryf.prog.readableRec t = true) (hrow : t < Tryf.prog.types.size) {f : Nat} {cs : Array Value} {d : DataW H} {p : List MemPlace}
    (h : DataW.trod enc Tryf.prog W 0 (fun _ => true) true f t cs.toList = some (d, p)) (hb : Below W.heap.size W W') : ∃ f', DataW.trod enc Tryf.prog W' 0 (fun b => decide (b < W.heap.size)) true f' t cs.toList = some (d, p) := by
  have hv : ∃ v : Value, cs.toList = v.cells.toList := by
    rcases open_map ht h with ⟨hcs, _⟩ | ⟨b, es, cl, m, rfl, hcs, _⟩
    · exact ⟨.map none, hcs⟩
    · exact ⟨.map (some b), hcs⟩
  obtain ⟨v, hv⟩ := hv
  rw [hv] at h ⊢
  exact Below.trod laidOutT hr hrow ⟨f, h⟩ hb (DataW.trod_lt f _ _ _ h)
theorem vars_keep {H : Type} {enc : TypeId × Value → H} {W W' : World} {gs : List (DataW H)} {q : List MemPlace} (hV : DataW.TrodVars enc Tryf.prog W (fun _ => true) ["github.com/evanw/esbuild/internal/compat.StringToJSFeature", "github.com/evanw/esbuild/internal/compat.StringToCSSFeature"] gs q) (hb : Below W.heap.size W W') :
    DataW.TrodVars enc Tryf.prog W' (fun b => decide (b < W.heap.size)) ["github.com/evanw/esbuild/internal/compat.StringToJSFeature", "github.com/evanw/esbuild/internal/compat.StringToCSSFeature"] gs q := by
  obtain ⟨g0, t0, cs0, f0, d0, p0, g1, t1, cs1, f1, d1, p1, rfl, a0, b0, c0, e0, a1, b1, c1, e1, rfl⟩ := trodVars_two hV
  obtain rfl := Option.some.inj (gJ.symm.trans a0)
  obtain rfl := Option.some.inj (gC.symm.trans a1)
  obtain rfl := Option.some.inj (tJ.symm.trans b0)
  obtain rfl := Option.some.inj (tC.symm.trans b1)
  obtain ⟨f0', e0'⟩ := map_keep Tryf.underlying64 (by kernel_rfl) (of_decide_eq_true (by kernel_rfl)) e0 hb
  obtain ⟨f1', e1'⟩ := map_keep Tryf.underlying66 (by kernel_rfl) (of_decide_eq_true (by kernel_rfl)) e1 hb
  exact ⟨0, 64, cs0, f0', p0, _, a0, b0, var_keep a0 c0 hb.block, e0', trodVars_mk1 a1 b1 (var_keep a1 c1 hb.block) e1', rfl⟩
end Go.Proofs.YtfkchhmjfnkjbaaFmt
