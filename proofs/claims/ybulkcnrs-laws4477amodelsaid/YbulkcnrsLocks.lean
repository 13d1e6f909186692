import Derived.Test.YbulkcnrsProg
import Derived.Conc.MuLone
import Derived.KernelRfl
namespace Go.Proofs.Ybulkcnrs
abbrev Yba.muLink : Go.Conc.Locks.MuLink := { lock := 15, unlock := 16, ilock := 22, iunlock := 23, lockSlow := 32, unlockSlow := 35, disable := 28, enable := 30, acquire := 31, relMerge := 33, cas32 := 29, add32 := 34, tMutex := 45, tIMutex := 43, tPMutex := 68, tPIMutex := 71, tPI32 := 73, tUP := 75, tNoCopy := 40, tU32 := 41 }
theorem Yba.muLib : Go.Conc.Locks.MuLib Yba.prog Yba.muLink :=
  ⟨Yba.func15, Yba.func16, Yba.func22, Yba.func23, Yba.func28, Yba.func30, Yba.func31, Yba.func33, Yba.func29, Yba.func34, Yba.underlying43, Yba.runUnderlying43, Yba.sizeOf43, Yba.isAgg43, Yba.zeroValue43, Yba.underlying45, Yba.runUnderlying45, Yba.sizeOf45, Yba.isAgg45, Yba.zeroValue45, Yba.underlying68, Yba.runUnderlying68, Yba.sizeOf68, Yba.isAgg68, Yba.zeroValue68, Yba.underlying71, Yba.runUnderlying71, Yba.sizeOf71, Yba.isAgg71, Yba.zeroValue71, Yba.underlying73, Yba.runUnderlying73, Yba.sizeOf73, Yba.isAgg73, Yba.zeroValue73, Yba.underlying75, Yba.runUnderlying75, Yba.sizeOf75, Yba.isAgg75, Yba.zeroValue75, Yba.underlying40, Yba.runUnderlying40, Yba.sizeOf40, Yba.isAgg40, Yba.zeroValue40, Yba.underlying21, Yba.runUnderlying21, Yba.sizeOf21, Yba.isAgg21, Yba.zeroValue21, (by kernel_rfl)⟩
end Go.Proofs.Ybulkcnrs
