/-
  The numbers under which this dump holds sync.RWMutex's reader's side, and that it holds them (as the guide's RwboxLocks).
-/
import Derived.Test.YbulkaqnkRows
import Derived.Conc.RwLib
import Derived.KernelRfl
namespace Go.Proofs.Ybulkaqnk
abbrev rwLink : Go.Conc.Locks.RwLink := { lock := 0, unlock := 0, ilock := 0, iunlock := 0, lockSlow := 0, unlockSlow := 0, disable := 12, enable := 15, acquire := 16, relMerge := 17, cas32 := 0, add32 := 19, tMutex := 36, tIMutex := 34, tPMutex := 80, tPIMutex := 0, tPI32 := 87, tUP := 49, tNoCopy := 31, tU32 := 32, rlock := 9, runlock := 10, wlock := 0, wunlock := 0, i32add := 13, raceRead := 11, release := 0, rUnlockSlow := 18, semacqR := 14, semacqW := 0, semrel := 21, sfatal := 20, tRW := 41, tPRW := 78, tAI32 := 39, tPAI32 := 85, tPU32 := 83, tANoCopy := 37 }
theorem rwCore : Go.Conc.Locks.RwCore Yba.prog rwLink :=
  ⟨Yba.func13, Yba.func11, Yba.func12, Yba.func15, Yba.func16, Yba.func17, Yba.func19, Yba.underlying41, Yba.runUnderlying41, Yba.sizeOf41, Yba.isAgg41, Yba.zeroValue41, Yba.underlying39, Yba.runUnderlying39, Yba.sizeOf39, Yba.isAgg39, Yba.zeroValue39, Yba.underlying78, Yba.runUnderlying78, Yba.sizeOf78, Yba.isAgg78, Yba.zeroValue78, Yba.underlying85, Yba.runUnderlying85, Yba.sizeOf85, Yba.isAgg85, Yba.zeroValue85, Yba.underlying83, Yba.runUnderlying83, Yba.sizeOf83, Yba.isAgg83, Yba.zeroValue83, Yba.underlying37, Yba.runUnderlying37, Yba.sizeOf37, Yba.isAgg37, Yba.zeroValue37, Yba.underlying32, Yba.runUnderlying32, Yba.sizeOf32, Yba.isAgg32, Yba.zeroValue32, Yba.underlying36, Yba.runUnderlying36, Yba.sizeOf36, Yba.isAgg36, Yba.zeroValue36, Yba.underlying80, Yba.runUnderlying80, Yba.sizeOf80, Yba.isAgg80, Yba.zeroValue80, Yba.underlying87, Yba.runUnderlying87, Yba.sizeOf87, Yba.isAgg87, Yba.zeroValue87, Yba.underlying49, Yba.runUnderlying49, Yba.sizeOf49, Yba.isAgg49, Yba.zeroValue49, Yba.underlying21, Yba.runUnderlying21, Yba.sizeOf21, Yba.isAgg21, Yba.zeroValue21, (by kernel_rfl), (by kernel_rfl)⟩
theorem rwRLib : Go.Conc.Locks.RwRLib Yba.prog rwLink := ⟨rwCore, Yba.func9, Yba.func10⟩
end Go.Proofs.Ybulkaqnk
