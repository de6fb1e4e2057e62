/- Where this dump holds the library's mutex. -/
import Derived.Test.YbulkdetkGreatDoorRows
import Derived.Conc.RwLib
import Derived.Conc.MuData
import Derived.KernelRfl
namespace Go.Proofs
abbrev Ybaz.muLink : Go.Conc.Locks.MuLink := { lock := 11, unlock := 12, ilock := 14, iunlock := 15, lockSlow := 27, unlockSlow := 30, disable := 23, enable := 25, acquire := 26, relMerge := 28, cas32 := 24, add32 := 29, tMutex := 86, tIMutex := 84, tPMutex := 102, tPIMutex := 110, tPI32 := 112, tUP := 114, tNoCopy := 81, tU32 := 82 }
theorem Ybaz.muLib : Go.Conc.Locks.MuLib Ybaz.prog Ybaz.muLink :=
  ⟨Ybaz.func11, Ybaz.func12, Ybaz.func14, Ybaz.func15, Ybaz.func23, Ybaz.func25, Ybaz.func26, Ybaz.func28, Ybaz.func24, Ybaz.func29, Ybaz.underlying84, Ybaz.runUnderlying84, Ybaz.sizeOf84, Ybaz.isAgg84, Ybaz.zeroValue84, Ybaz.underlying86, Ybaz.runUnderlying86, Ybaz.sizeOf86, Ybaz.isAgg86, Ybaz.zeroValue86, Ybaz.underlying102, Ybaz.runUnderlying102, Ybaz.sizeOf102, Ybaz.isAgg102, Ybaz.zeroValue102, Ybaz.underlying110, Ybaz.runUnderlying110, Ybaz.sizeOf110, Ybaz.isAgg110, Ybaz.zeroValue110, Ybaz.underlying112, Ybaz.runUnderlying112, Ybaz.sizeOf112, Ybaz.isAgg112, Ybaz.zeroValue112, Ybaz.underlying114, Ybaz.runUnderlying114, Ybaz.sizeOf114, Ybaz.isAgg114, Ybaz.zeroValue114, Ybaz.underlying81, Ybaz.runUnderlying81, Ybaz.sizeOf81, Ybaz.isAgg81, Ybaz.zeroValue81, Ybaz.underlying21, Ybaz.runUnderlying21, Ybaz.sizeOf21, Ybaz.isAgg21, Ybaz.zeroValue21, (by kernel_rfl)⟩
end Go.Proofs
