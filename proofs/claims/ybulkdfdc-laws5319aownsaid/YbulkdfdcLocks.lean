import Derived.Test.YbulkdfdcProg
import Derived.Conc.RwLib
import Derived.Conc.MuData
import Derived.KernelRfl
namespace Go.Proofs.Ybulkdfdc
open Go.Proofs
abbrev muLink : Go.Conc.Locks.MuLink := { lock := 30, unlock := 31, ilock := 34, iunlock := 35, lockSlow := 41, unlockSlow := 44, disable := 37, enable := 39, acquire := 40, relMerge := 42, cas32 := 38, add32 := 43, tMutex := 55, tIMutex := 53, tPMutex := 158, tPIMutex := 160, tPI32 := 162, tUP := 164, tNoCopy := 50, tU32 := 51 }
theorem muLib : Go.Conc.Locks.MuLib Yba.prog muLink :=
  ⟨Yba.func30, Yba.func31, Yba.func34, Yba.func35, Yba.func37, Yba.func39, Yba.func40, Yba.func42, Yba.func38, Yba.func43, Yba.underlying53, Yba.runUnderlying53, Yba.sizeOf53, Yba.isAgg53, Yba.zeroValue53, Yba.underlying55, Yba.runUnderlying55, Yba.sizeOf55, Yba.isAgg55, Yba.zeroValue55, Yba.underlying158, Yba.runUnderlying158, Yba.sizeOf158, Yba.isAgg158, Yba.zeroValue158, Yba.underlying160, Yba.runUnderlying160, Yba.sizeOf160, Yba.isAgg160, Yba.zeroValue160, Yba.underlying162, Yba.runUnderlying162, Yba.sizeOf162, Yba.isAgg162, Yba.zeroValue162, Yba.underlying164, Yba.runUnderlying164, Yba.sizeOf164, Yba.isAgg164, Yba.zeroValue164, Yba.underlying50, Yba.runUnderlying50, Yba.sizeOf50, Yba.isAgg50, Yba.zeroValue50, Yba.underlying21, Yba.runUnderlying21, Yba.sizeOf21, Yba.isAgg21, Yba.zeroValue21, (by kernel_rfl)⟩
end Go.Proofs.Ybulkdfdc
