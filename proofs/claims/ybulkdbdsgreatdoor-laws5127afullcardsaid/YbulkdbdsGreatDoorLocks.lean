import Derived.Test.YbulkdbdsGreatDoorProg
import Derived.Conc.MuLone
import Derived.KernelRfl
namespace Go.Proofs
abbrev Ybaz.muLink : Go.Conc.Locks.MuLink := { lock := 11, unlock := 12, ilock := 25, iunlock := 26, lockSlow := 44, unlockSlow := 47, disable := 40, enable := 42, acquire := 43, relMerge := 45, cas32 := 41, add32 := 46, tMutex := 69, tIMutex := 67, tPMutex := 100, tPIMutex := 120, tPI32 := 122, tUP := 124, tNoCopy := 64, tU32 := 65 }
theorem Ybaz.muLib : Go.Conc.Locks.MuLib Ybaz.prog Ybaz.muLink :=
  ⟨Ybaz.func11, Ybaz.func12, Ybaz.func25, Ybaz.func26, Ybaz.func40, Ybaz.func42, Ybaz.func43, Ybaz.func45, Ybaz.func41, Ybaz.func46, Ybaz.underlying67, Ybaz.runUnderlying67, Ybaz.sizeOf67, Ybaz.isAgg67, Ybaz.zeroValue67, Ybaz.underlying69, Ybaz.runUnderlying69, Ybaz.sizeOf69, Ybaz.isAgg69, Ybaz.zeroValue69, Ybaz.underlying100, Ybaz.runUnderlying100, Ybaz.sizeOf100, Ybaz.isAgg100, Ybaz.zeroValue100, Ybaz.underlying120, Ybaz.runUnderlying120, Ybaz.sizeOf120, Ybaz.isAgg120, Ybaz.zeroValue120, Ybaz.underlying122, Ybaz.runUnderlying122, Ybaz.sizeOf122, Ybaz.isAgg122, Ybaz.zeroValue122, Ybaz.underlying124, Ybaz.runUnderlying124, Ybaz.sizeOf124, Ybaz.isAgg124, Ybaz.zeroValue124, Ybaz.underlying64, Ybaz.runUnderlying64, Ybaz.sizeOf64, Ybaz.isAgg64, Ybaz.zeroValue64, Ybaz.underlying21, Ybaz.runUnderlying21, Ybaz.sizeOf21, Ybaz.isAgg21, Ybaz.zeroValue21, (by kernel_rfl)⟩
end Go.Proofs
