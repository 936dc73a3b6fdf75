/-
  The numbers under which this dump holds sync.Mutex, and that it holds them (as the guide's StatsLocks).
-/
import Derived.Test.YbulkaqqcRows
import Derived.Conc.MuLib
import Derived.KernelRfl
namespace Go.Proofs.Ybulkaqqc
abbrev muLink : Go.Conc.Locks.MuLink := { lock := 8, unlock := 9, ilock := 13, iunlock := 14, lockSlow := 19, unlockSlow := 22, disable := 15, enable := 17, acquire := 18, relMerge := 20, cas32 := 16, add32 := 21, tMutex := 33, tIMutex := 31, tPMutex := 70, tPIMutex := 72, tPI32 := 74, tUP := 76, tNoCopy := 28, tU32 := 29 }
theorem muLib : Go.Conc.Locks.MuLib Yba.prog muLink :=
  ⟨Yba.func8, Yba.func9, Yba.func13, Yba.func14, Yba.func15, Yba.func17, Yba.func18, Yba.func20, Yba.func16, Yba.func21, Yba.underlying31, Yba.runUnderlying31, Yba.sizeOf31, Yba.isAgg31, Yba.zeroValue31, Yba.underlying33, Yba.runUnderlying33, Yba.sizeOf33, Yba.isAgg33, Yba.zeroValue33, Yba.underlying70, Yba.runUnderlying70, Yba.sizeOf70, Yba.isAgg70, Yba.zeroValue70, Yba.underlying72, Yba.runUnderlying72, Yba.sizeOf72, Yba.isAgg72, Yba.zeroValue72, Yba.underlying74, Yba.runUnderlying74, Yba.sizeOf74, Yba.isAgg74, Yba.zeroValue74, Yba.underlying76, Yba.runUnderlying76, Yba.sizeOf76, Yba.isAgg76, Yba.zeroValue76, Yba.underlying28, Yba.runUnderlying28, Yba.sizeOf28, Yba.isAgg28, Yba.zeroValue28, Yba.underlying21, Yba.runUnderlying21, Yba.sizeOf21, Yba.isAgg21, Yba.zeroValue21, (by kernel_rfl)⟩
end Go.Proofs.Ybulkaqqc
