import Derived.Test.YbulkbpdqGreatRows
import Derived.Conc.RwLib
import Derived.Conc.MuData
import Derived.Conc.MuLone
import Derived.KernelRfl
namespace Go.Proofs.YbulkbpdqGreat
/-- The numbers under which this program holds sync.Mutex. -/
abbrev muLink : Go.Conc.Locks.MuLink := { lock := 60, unlock := 61, ilock := 84, iunlock := 85, lockSlow := 106, unlockSlow := 109, disable := 102, enable := 104, acquire := 105, relMerge := 107, cas32 := 103, add32 := 108, tMutex := 61, tIMutex := 59, tPMutex := 212, tPIMutex := 234, tPI32 := 236, tUP := 238, tNoCopy := 57, tU32 := 40 }
theorem muLib : Go.Conc.Locks.MuLib Ybaz.prog muLink :=
  ⟨Ybaz.func60, Ybaz.func61, Ybaz.func84, Ybaz.func85, Ybaz.func102, Ybaz.func104, Ybaz.func105, Ybaz.func107, Ybaz.func103, Ybaz.func108, Ybaz.underlying59, Ybaz.runUnderlying59, Ybaz.sizeOf59, Ybaz.isAgg59, Ybaz.zeroValue59, Ybaz.underlying61, Ybaz.runUnderlying61, Ybaz.sizeOf61, Ybaz.isAgg61, Ybaz.zeroValue61, Ybaz.underlying212, Ybaz.runUnderlying212, Ybaz.sizeOf212, Ybaz.isAgg212, Ybaz.zeroValue212, Ybaz.underlying234, Ybaz.runUnderlying234, Ybaz.sizeOf234, Ybaz.isAgg234, Ybaz.zeroValue234, Ybaz.underlying236, Ybaz.runUnderlying236, Ybaz.sizeOf236, Ybaz.isAgg236, Ybaz.zeroValue236, Ybaz.underlying238, Ybaz.runUnderlying238, Ybaz.sizeOf238, Ybaz.isAgg238, Ybaz.zeroValue238, Ybaz.underlying57, Ybaz.runUnderlying57, Ybaz.sizeOf57, Ybaz.isAgg57, Ybaz.zeroValue57, Ybaz.underlying21, Ybaz.runUnderlying21, Ybaz.sizeOf21, Ybaz.isAgg21, Ybaz.zeroValue21, (by kernel_rfl)⟩
end Go.Proofs.YbulkbpdqGreat
