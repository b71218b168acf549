/-
  THE NUMBERS UNDER WHICH THIS DUMP HOLDS THE READER'S SIDE OF sync.RWMutex (after the guide's RwboxLocks; the numbers of what is not in this cut are 0 and are not looked at).
-/
import Derived.Test.YbulkaqzgFmtProg
import Derived.Conc.RwLib
import Derived.KernelRfl
namespace Go.Proofs
abbrev Ybaf.rwLink : Go.Conc.Locks.RwLink := { lock := 0, unlock := 0, ilock := 0, iunlock := 0, lockSlow := 0, unlockSlow := 0, disable := 16, enable := 19, acquire := 20, relMerge := 21, cas32 := 0, add32 := 26, tMutex := 63, tIMutex := 61, tPMutex := 76, tPIMutex := 0, tPI32 := 88, tUP := 75, tNoCopy := 58, tU32 := 59, rlock := 11, runlock := 12, wlock := 0, wunlock := 0, i32add := 17, raceRead := 15, release := 0, rUnlockSlow := 22, semacqR := 18, semacqW := 0, semrel := 28, sfatal := 27, tRW := 68, tPRW := 73, tAI32 := 66, tPAI32 := 86, tPU32 := 79, tANoCopy := 64 }
theorem Ybaf.rwCore : Go.Conc.Locks.RwCore Ybaf.prog Ybaf.rwLink :=
  ⟨Ybaf.func17, Ybaf.func15, Ybaf.func16, Ybaf.func19, Ybaf.func20, Ybaf.func21, Ybaf.func26, Ybaf.underlying68, Ybaf.runUnderlying68, Ybaf.sizeOf68, Ybaf.isAgg68, Ybaf.zeroValue68, Ybaf.underlying66, Ybaf.runUnderlying66, Ybaf.sizeOf66, Ybaf.isAgg66, Ybaf.zeroValue66, Ybaf.underlying73, Ybaf.runUnderlying73, Ybaf.sizeOf73, Ybaf.isAgg73, Ybaf.zeroValue73, Ybaf.underlying86, Ybaf.runUnderlying86, Ybaf.sizeOf86, Ybaf.isAgg86, Ybaf.zeroValue86, Ybaf.underlying79, Ybaf.runUnderlying79, Ybaf.sizeOf79, Ybaf.isAgg79, Ybaf.zeroValue79, Ybaf.underlying64, Ybaf.runUnderlying64, Ybaf.sizeOf64, Ybaf.isAgg64, Ybaf.zeroValue64, Ybaf.underlying59, Ybaf.runUnderlying59, Ybaf.sizeOf59, Ybaf.isAgg59, Ybaf.zeroValue59, Ybaf.underlying63, Ybaf.runUnderlying63, Ybaf.sizeOf63, Ybaf.isAgg63, Ybaf.zeroValue63, Ybaf.underlying76, Ybaf.runUnderlying76, Ybaf.sizeOf76, Ybaf.isAgg76, Ybaf.zeroValue76, Ybaf.underlying88, Ybaf.runUnderlying88, Ybaf.sizeOf88, Ybaf.isAgg88, Ybaf.zeroValue88, Ybaf.underlying75, Ybaf.runUnderlying75, Ybaf.sizeOf75, Ybaf.isAgg75, Ybaf.zeroValue75, Ybaf.underlying21, Ybaf.runUnderlying21, Ybaf.sizeOf21, Ybaf.isAgg21, Ybaf.zeroValue21, (by kernel_rfl), (by kernel_rfl)⟩
theorem Ybaf.rwRLib : Go.Conc.Locks.RwRLib Ybaf.prog Ybaf.rwLink := ⟨Ybaf.rwCore, Ybaf.func11, Ybaf.func12⟩
end Go.Proofs
