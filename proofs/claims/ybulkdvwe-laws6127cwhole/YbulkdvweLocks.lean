import Derived.Test.YbulkdvweProg
import Derived.Conc.RwLib
import Derived.Conc.MuData
import Derived.KernelRfl
namespace Go.Proofs
/-- where this dump holds the lock -/
abbrev Yba.muLink : Go.Conc.Locks.MuLink := { lock := 20, unlock := 21, ilock := 22, iunlock := 23, lockSlow := 28, unlockSlow := 31, disable := 24, enable := 26, acquire := 27, relMerge := 29, cas32 := 25, add32 := 30, tMutex := 50, tIMutex := 48, tPMutex := 81, tPIMutex := 82, tPI32 := 84, tUP := 86, tNoCopy := 45, tU32 := 46 }
theorem Yba.muLib : Go.Conc.Locks.MuLib Yba.prog Yba.muLink :=
  ⟨Yba.func20, Yba.func21, Yba.func22, Yba.func23, Yba.func24, Yba.func26, Yba.func27, Yba.func29, Yba.func25, Yba.func30, Yba.underlying48, Yba.runUnderlying48, Yba.sizeOf48, Yba.isAgg48, Yba.zeroValue48, Yba.underlying50, Yba.runUnderlying50, Yba.sizeOf50, Yba.isAgg50, Yba.zeroValue50, Yba.underlying81, Yba.runUnderlying81, Yba.sizeOf81, Yba.isAgg81, Yba.zeroValue81, Yba.underlying82, Yba.runUnderlying82, Yba.sizeOf82, Yba.isAgg82, Yba.zeroValue82, Yba.underlying84, Yba.runUnderlying84, Yba.sizeOf84, Yba.isAgg84, Yba.zeroValue84, Yba.underlying86, Yba.runUnderlying86, Yba.sizeOf86, Yba.isAgg86, Yba.zeroValue86, Yba.underlying45, Yba.runUnderlying45, Yba.sizeOf45, Yba.isAgg45, Yba.zeroValue45, Yba.underlying21, Yba.runUnderlying21, Yba.sizeOf21, Yba.isAgg21, Yba.zeroValue21, (by kernel_rfl)⟩
end Go.Proofs
