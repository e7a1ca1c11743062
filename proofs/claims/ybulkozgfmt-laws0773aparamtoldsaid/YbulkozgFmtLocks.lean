import Derived.Test.YbulkozgFmtChecked
import Derived.Conc.RwLib
import Derived.KernelRfl
/-!
The numbers under which this dump holds sync.RWMutex's reader functions and types (after the guide's RwboxLocks; the tool 'lock-link' is not in this box: typed by hand; numbers that no reader uses are 0).
-/
namespace Go.Proofs
abbrev Ybaf.rwLink : Go.Conc.Locks.RwLink := { lock := 0, unlock := 0, ilock := 0, iunlock := 0, lockSlow := 0, unlockSlow := 0, disable := 21, enable := 24, acquire := 25, relMerge := 26, cas32 := 0, add32 := 36, tMutex := 32, tIMutex := 30, tPMutex := 111, tPIMutex := 0, tPI32 := 131, tUP := 54, tNoCopy := 27, tU32 := 28, rlock := 14, runlock := 15, wlock := 0, wunlock := 0, i32add := 22, raceRead := 20, release := 0, rUnlockSlow := 27, semacqR := 23, semacqW := 0, semrel := 38, sfatal := 37, tRW := 37, tPRW := 109, tAI32 := 35, tPAI32 := 129, tPU32 := 85, tANoCopy := 33 }
theorem Ybaf.rwCore : Go.Conc.Locks.RwCore Ybaf.prog Ybaf.rwLink :=
  ⟨Ybaf.func22, Ybaf.func20, Ybaf.func21, Ybaf.func24, Ybaf.func25, Ybaf.func26, Ybaf.func36, Ybaf.underlying37, Ybaf.runUnderlying37, Ybaf.sizeOf37, Ybaf.isAgg37, Ybaf.zeroValue37, Ybaf.underlying35, Ybaf.runUnderlying35, Ybaf.sizeOf35, Ybaf.isAgg35, Ybaf.zeroValue35, Ybaf.underlying109, Ybaf.runUnderlying109, Ybaf.sizeOf109, Ybaf.isAgg109, Ybaf.zeroValue109, Ybaf.underlying129, Ybaf.runUnderlying129, Ybaf.sizeOf129, Ybaf.isAgg129, Ybaf.zeroValue129, Ybaf.underlying85, Ybaf.runUnderlying85, Ybaf.sizeOf85, Ybaf.isAgg85, Ybaf.zeroValue85, Ybaf.underlying33, Ybaf.runUnderlying33, Ybaf.sizeOf33, Ybaf.isAgg33, Ybaf.zeroValue33, Ybaf.underlying28, Ybaf.runUnderlying28, Ybaf.sizeOf28, Ybaf.isAgg28, Ybaf.zeroValue28, Ybaf.underlying32, Ybaf.runUnderlying32, Ybaf.sizeOf32, Ybaf.isAgg32, Ybaf.zeroValue32, Ybaf.underlying111, Ybaf.runUnderlying111, Ybaf.sizeOf111, Ybaf.isAgg111, Ybaf.zeroValue111, Ybaf.underlying131, Ybaf.runUnderlying131, Ybaf.sizeOf131, Ybaf.isAgg131, Ybaf.zeroValue131, Ybaf.underlying54, Ybaf.runUnderlying54, Ybaf.sizeOf54, Ybaf.isAgg54, Ybaf.zeroValue54, Ybaf.underlying21, Ybaf.runUnderlying21, Ybaf.sizeOf21, Ybaf.isAgg21, Ybaf.zeroValue21, (by kernel_rfl), (by kernel_rfl)⟩
theorem Ybaf.rwRLib : Go.Conc.Locks.RwRLib Ybaf.prog Ybaf.rwLink := ⟨Ybaf.rwCore, Ybaf.func14, Ybaf.func15⟩
end Go.Proofs
