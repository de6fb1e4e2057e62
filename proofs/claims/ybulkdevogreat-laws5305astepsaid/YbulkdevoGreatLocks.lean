/- Where this dump holds the library's mutex. -/
import Derived.Test.YbulkdevoGreatRows
import Derived.Conc.RwLib
import Derived.Conc.MuData
import Derived.KernelRfl
namespace Go.Proofs
abbrev Ybaz.muLink : Go.Conc.Locks.MuLink := { lock := 16, unlock := 17, ilock := 21, iunlock := 22, lockSlow := 36, unlockSlow := 39, disable := 32, enable := 34, acquire := 35, relMerge := 37, cas32 := 33, add32 := 38, tMutex := 59, tIMutex := 57, tPMutex := 105, tPIMutex := 115, tPI32 := 117, tUP := 119, tNoCopy := 55, tU32 := 43 }
theorem Ybaz.muLib : Go.Conc.Locks.MuLib Ybaz.prog Ybaz.muLink :=
  ⟨Ybaz.func16, Ybaz.func17, Ybaz.func21, Ybaz.func22, Ybaz.func32, Ybaz.func34, Ybaz.func35, Ybaz.func37, Ybaz.func33, Ybaz.func38, Ybaz.underlying57, Ybaz.runUnderlying57, Ybaz.sizeOf57, Ybaz.isAgg57, Ybaz.zeroValue57, Ybaz.underlying59, Ybaz.runUnderlying59, Ybaz.sizeOf59, Ybaz.isAgg59, Ybaz.zeroValue59, Ybaz.underlying105, Ybaz.runUnderlying105, Ybaz.sizeOf105, Ybaz.isAgg105, Ybaz.zeroValue105, Ybaz.underlying115, Ybaz.runUnderlying115, Ybaz.sizeOf115, Ybaz.isAgg115, Ybaz.zeroValue115, Ybaz.underlying117, Ybaz.runUnderlying117, Ybaz.sizeOf117, Ybaz.isAgg117, Ybaz.zeroValue117, Ybaz.underlying119, Ybaz.runUnderlying119, Ybaz.sizeOf119, Ybaz.isAgg119, Ybaz.zeroValue119, Ybaz.underlying55, Ybaz.runUnderlying55, Ybaz.sizeOf55, Ybaz.isAgg55, Ybaz.zeroValue55, Ybaz.underlying21, Ybaz.runUnderlying21, Ybaz.sizeOf21, Ybaz.isAgg21, Ybaz.zeroValue21, (by kernel_rfl)⟩
end Go.Proofs
