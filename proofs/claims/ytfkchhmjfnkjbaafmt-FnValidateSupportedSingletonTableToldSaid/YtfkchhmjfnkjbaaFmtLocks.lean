/- The numbers under which this dump holds sync.Mutex's functions and types, and that it holds them. -/
import Derived.Test.YtfkchhmjfnkjbaaFmtProg
import Derived.Conc.MuLone
import Derived.KernelRfl
namespace Go.Proofs
abbrev Tryf.muLink : Go.Conc.Locks.MuLink := { lock := 13, unlock := 14, ilock := 21, iunlock := 22, lockSlow := 29, unlockSlow := 32, disable := 25, enable := 27, acquire := 28, relMerge := 30, cas32 := 26, add32 := 31, tMutex := 54, tIMutex := 52, tPMutex := 73, tPIMutex := 80, tPI32 := 82, tUP := 84, tNoCopy := 49, tU32 := 50 }
theorem Tryf.muLib : Go.Conc.Locks.MuLib Tryf.prog Tryf.muLink :=
  ⟨Tryf.func13, Tryf.func14, Tryf.func21, Tryf.func22, Tryf.func25, Tryf.func27, Tryf.func28, Tryf.func30, Tryf.func26, Tryf.func31, Tryf.underlying52, Tryf.runUnderlying52, Tryf.sizeOf52, Tryf.isAgg52, Tryf.zeroValue52, Tryf.underlying54, Tryf.runUnderlying54, Tryf.sizeOf54, Tryf.isAgg54, Tryf.zeroValue54, Tryf.underlying73, Tryf.runUnderlying73, Tryf.sizeOf73, Tryf.isAgg73, Tryf.zeroValue73, Tryf.underlying80, Tryf.runUnderlying80, Tryf.sizeOf80, Tryf.isAgg80, Tryf.zeroValue80, Tryf.underlying82, Tryf.runUnderlying82, Tryf.sizeOf82, Tryf.isAgg82, Tryf.zeroValue82, Tryf.underlying84, Tryf.runUnderlying84, Tryf.sizeOf84, Tryf.isAgg84, Tryf.zeroValue84, Tryf.underlying49, Tryf.runUnderlying49, Tryf.sizeOf49, Tryf.isAgg49, Tryf.zeroValue49, Tryf.underlying21, Tryf.runUnderlying21, Tryf.sizeOf21, Tryf.isAgg21, Tryf.zeroValue21, (by kernel_rfl)⟩
end Go.Proofs

