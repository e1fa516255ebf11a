import Derived.Test.YbulkcaqmProg
import Derived.Conc.RwLib
import Derived.KernelRfl
namespace Go.Proofs.Ybulkcaqm
abbrev Yba.muLink : Go.Conc.Locks.MuLink := { lock := 14, unlock := 16, ilock := 18, iunlock := 19, lockSlow := 25, unlockSlow := 28, disable := 21, enable := 23, acquire := 24, relMerge := 26, cas32 := 22, add32 := 27, tMutex := 31, tIMutex := 29, tPMutex := 57, tPIMutex := 58, tPI32 := 60, tUP := 62, tNoCopy := 26, tU32 := 27 }
theorem Yba.muLib : Go.Conc.Locks.MuLib Yba.prog Yba.muLink :=
  ⟨Yba.func14, Yba.func16, Yba.func18, Yba.func19, Yba.func21, Yba.func23, Yba.func24, Yba.func26, Yba.func22, Yba.func27, Yba.underlying29, Yba.runUnderlying29, Yba.sizeOf29, Yba.isAgg29, Yba.zeroValue29, Yba.underlying31, Yba.runUnderlying31, Yba.sizeOf31, Yba.isAgg31, Yba.zeroValue31, Yba.underlying57, Yba.runUnderlying57, Yba.sizeOf57, Yba.isAgg57, Yba.zeroValue57, Yba.underlying58, Yba.runUnderlying58, Yba.sizeOf58, Yba.isAgg58, Yba.zeroValue58, Yba.underlying60, Yba.runUnderlying60, Yba.sizeOf60, Yba.isAgg60, Yba.zeroValue60, Yba.underlying62, Yba.runUnderlying62, Yba.sizeOf62, Yba.isAgg62, Yba.zeroValue62, Yba.underlying26, Yba.runUnderlying26, Yba.sizeOf26, Yba.isAgg26, Yba.zeroValue26, Yba.underlying21, Yba.runUnderlying21, Yba.sizeOf21, Yba.isAgg21, Yba.zeroValue21, (by kernel_rfl)⟩
end Go.Proofs.Ybulkcaqm
