/-
  Seat b6626901a: the numbers under which this translation holds sync.RWMutex's reader's side, and that it holds it (Derived/Conc/RwLib.lean). Checked by the kernel.
-/
import Derived.Test.Qxb6626901aRows
import Derived.Conc.RwLone
import Derived.KernelRfl
namespace Go.Proofs.Qxb6626901a
abbrev rwLink : Go.Conc.Locks.RwLink := { lock := 54, unlock := 0, ilock := 0, iunlock := 0, lockSlow := 0, unlockSlow := 0, disable := 27, enable := 30, acquire := 31, relMerge := 32, cas32 := 0, add32 := 34, tMutex := 47, tIMutex := 45, tPMutex := 78, tPIMutex := 0, tPI32 := 85, tUP := 77, tNoCopy := 42, tU32 := 43, rlock := 16, runlock := 17, wlock := 53, wunlock := 0, i32add := 28, raceRead := 26, release := 0, rUnlockSlow := 33, semacqR := 29, semacqW := 0, semrel := 36, sfatal := 35, tRW := 52, tPRW := 75, tAI32 := 50, tPAI32 := 83, tPU32 := 81, tANoCopy := 48 }
theorem rwCore : Go.Conc.Locks.RwCore Try.prog rwLink :=
  ⟨Try.func28, Try.func26, Try.func27, Try.func30, Try.func31, Try.func32, Try.func34, Try.underlying52, Try.runUnderlying52, Try.sizeOf52, Try.isAgg52, Try.zeroValue52, Try.underlying50, Try.runUnderlying50, Try.sizeOf50, Try.isAgg50, Try.zeroValue50, Try.underlying75, Try.runUnderlying75, Try.sizeOf75, Try.isAgg75, Try.zeroValue75, Try.underlying83, Try.runUnderlying83, Try.sizeOf83, Try.isAgg83, Try.zeroValue83, Try.underlying81, Try.runUnderlying81, Try.sizeOf81, Try.isAgg81, Try.zeroValue81, Try.underlying48, Try.runUnderlying48, Try.sizeOf48, Try.isAgg48, Try.zeroValue48, Try.underlying43, Try.runUnderlying43, Try.sizeOf43, Try.isAgg43, Try.zeroValue43, Try.underlying47, Try.runUnderlying47, Try.sizeOf47, Try.isAgg47, Try.zeroValue47, Try.underlying78, Try.runUnderlying78, Try.sizeOf78, Try.isAgg78, Try.zeroValue78, Try.underlying85, Try.runUnderlying85, Try.sizeOf85, Try.isAgg85, Try.zeroValue85, Try.underlying77, Try.runUnderlying77, Try.sizeOf77, Try.isAgg77, Try.zeroValue77, Try.underlying21, Try.runUnderlying21, Try.sizeOf21, Try.isAgg21, Try.zeroValue21, (by kernel_rfl), (by kernel_rfl)⟩
theorem rwRLib : Go.Conc.Locks.RwRLib Try.prog rwLink := ⟨rwCore, Try.func16, Try.func17⟩
end Go.Proofs.Qxb6626901a
