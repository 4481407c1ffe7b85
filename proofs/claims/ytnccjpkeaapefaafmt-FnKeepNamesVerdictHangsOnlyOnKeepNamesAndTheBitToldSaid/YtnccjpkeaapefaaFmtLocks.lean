/- The numbers under which this dump holds sync.Mutex's functions and types, and that it holds them. -/
import Derived.Test.YtnccjpkeaapefaaFmtProg
import Derived.Conc.MuLone
import Derived.KernelRfl
namespace Go.Proofs
abbrev Tryf.muLink : Go.Conc.Locks.MuLink := { lock := 10, unlock := 11, ilock := 20, iunlock := 21, lockSlow := 28, unlockSlow := 31, disable := 24, enable := 26, acquire := 27, relMerge := 29, cas32 := 25, add32 := 30, tMutex := 102, tIMutex := 100, tPMutex := 115, tPIMutex := 123, tPI32 := 125, tUP := 127, tNoCopy := 98, tU32 := 69 }
theorem Tryf.muLib : Go.Conc.Locks.MuLib Tryf.prog Tryf.muLink :=
  ⟨Tryf.func10, Tryf.func11, Tryf.func20, Tryf.func21, Tryf.func24, Tryf.func26, Tryf.func27, Tryf.func29, Tryf.func25, Tryf.func30, Tryf.underlying100, Tryf.runUnderlying100, Tryf.sizeOf100, Tryf.isAgg100, Tryf.zeroValue100, Tryf.underlying102, Tryf.runUnderlying102, Tryf.sizeOf102, Tryf.isAgg102, Tryf.zeroValue102, Tryf.underlying115, Tryf.runUnderlying115, Tryf.sizeOf115, Tryf.isAgg115, Tryf.zeroValue115, Tryf.underlying123, Tryf.runUnderlying123, Tryf.sizeOf123, Tryf.isAgg123, Tryf.zeroValue123, Tryf.underlying125, Tryf.runUnderlying125, Tryf.sizeOf125, Tryf.isAgg125, Tryf.zeroValue125, Tryf.underlying127, Tryf.runUnderlying127, Tryf.sizeOf127, Tryf.isAgg127, Tryf.zeroValue127, Tryf.underlying98, Tryf.runUnderlying98, Tryf.sizeOf98, Tryf.isAgg98, Tryf.zeroValue98, Tryf.underlying21, Tryf.runUnderlying21, Tryf.sizeOf21, Tryf.isAgg21, Tryf.zeroValue21, (by kernel_rfl)⟩
end Go.Proofs

