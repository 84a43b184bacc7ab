import Derived.Test.YbulkcoecFmtProg
import Derived.Conc.RwLib
import Derived.Conc.MuData
import Derived.KernelRfl
namespace Go.Proofs
abbrev Ybaf.muLink : Go.Conc.Locks.MuLink := { lock := 16, unlock := 19, ilock := 37, iunlock := 40, lockSlow := 61, unlockSlow := 66, disable := 57, enable := 59, acquire := 60, relMerge := 64, cas32 := 58, add32 := 65, tMutex := 61, tIMutex := 59, tPMutex := 80, tPIMutex := 137, tPI32 := 139, tUP := 141, tNoCopy := 56, tU32 := 57 }
theorem Ybaf.muLib : Go.Conc.Locks.MuLib Ybaf.prog Ybaf.muLink :=
  ⟨Ybaf.func16, Ybaf.func19, Ybaf.func37, Ybaf.func40, Ybaf.func57, Ybaf.func59, Ybaf.func60, Ybaf.func64, Ybaf.func58, Ybaf.func65, Ybaf.underlying59, Ybaf.runUnderlying59, Ybaf.sizeOf59, Ybaf.isAgg59, Ybaf.zeroValue59, Ybaf.underlying61, Ybaf.runUnderlying61, Ybaf.sizeOf61, Ybaf.isAgg61, Ybaf.zeroValue61, Ybaf.underlying80, Ybaf.runUnderlying80, Ybaf.sizeOf80, Ybaf.isAgg80, Ybaf.zeroValue80, Ybaf.underlying137, Ybaf.runUnderlying137, Ybaf.sizeOf137, Ybaf.isAgg137, Ybaf.zeroValue137, Ybaf.underlying139, Ybaf.runUnderlying139, Ybaf.sizeOf139, Ybaf.isAgg139, Ybaf.zeroValue139, Ybaf.underlying141, Ybaf.runUnderlying141, Ybaf.sizeOf141, Ybaf.isAgg141, Ybaf.zeroValue141, Ybaf.underlying56, Ybaf.runUnderlying56, Ybaf.sizeOf56, Ybaf.isAgg56, Ybaf.zeroValue56, Ybaf.underlying21, Ybaf.runUnderlying21, Ybaf.sizeOf21, Ybaf.isAgg21, Ybaf.zeroValue21, (by kernel_rfl)⟩
end Go.Proofs
