/-
  The numbers under which this dump holds sync.RWMutex's reader's side (after the guide's worked RwboxLocks.lean); checked by the kernel as it is compiled.
-/
import Derived.Test.YbulkbopqChecked
import Derived.Conc.RwLib
import Derived.Conc.RwLone
import Derived.KernelRfl
namespace Go.Proofs.Ybulkbopq
abbrev rwLink : Go.Conc.Locks.RwLink := { lock := 0, unlock := 0, ilock := 0, iunlock := 0, lockSlow := 0, unlockSlow := 0, disable := 27, enable := 30, acquire := 31, relMerge := 32, cas32 := 0, add32 := 40, tMutex := 46, tIMutex := 44, tPMutex := 142, tPIMutex := 0, tPI32 := 155, tUP := 69, tNoCopy := 42, tU32 := 23, rlock := 20, runlock := 21, wlock := 0, wunlock := 0, i32add := 28, raceRead := 26, release := 0, rUnlockSlow := 33, semacqR := 29, semacqW := 0, semrel := 42, sfatal := 41, tRW := 51, tPRW := 140, tAI32 := 49, tPAI32 := 153, tPU32 := 145, tANoCopy := 47 }
theorem rwCore : Go.Conc.Locks.RwCore Yba.prog rwLink :=
  ⟨Yba.func28, Yba.func26, Yba.func27, Yba.func30, Yba.func31, Yba.func32, Yba.func40, Yba.underlying51, Yba.runUnderlying51, Yba.sizeOf51, Yba.isAgg51, Yba.zeroValue51, Yba.underlying49, Yba.runUnderlying49, Yba.sizeOf49, Yba.isAgg49, Yba.zeroValue49, Yba.underlying140, Yba.runUnderlying140, Yba.sizeOf140, Yba.isAgg140, Yba.zeroValue140, Yba.underlying153, Yba.runUnderlying153, Yba.sizeOf153, Yba.isAgg153, Yba.zeroValue153, Yba.underlying145, Yba.runUnderlying145, Yba.sizeOf145, Yba.isAgg145, Yba.zeroValue145, Yba.underlying47, Yba.runUnderlying47, Yba.sizeOf47, Yba.isAgg47, Yba.zeroValue47, Yba.underlying23, Yba.runUnderlying23, Yba.sizeOf23, Yba.isAgg23, Yba.zeroValue23, Yba.underlying46, Yba.runUnderlying46, Yba.sizeOf46, Yba.isAgg46, Yba.zeroValue46, Yba.underlying142, Yba.runUnderlying142, Yba.sizeOf142, Yba.isAgg142, Yba.zeroValue142, Yba.underlying155, Yba.runUnderlying155, Yba.sizeOf155, Yba.isAgg155, Yba.zeroValue155, Yba.underlying69, Yba.runUnderlying69, Yba.sizeOf69, Yba.isAgg69, Yba.zeroValue69, Yba.underlying21, Yba.runUnderlying21, Yba.sizeOf21, Yba.isAgg21, Yba.zeroValue21, (by kernel_rfl), (by kernel_rfl)⟩
theorem rwRLib : Go.Conc.Locks.RwRLib Yba.prog rwLink := ⟨rwCore, Yba.func20, Yba.func21⟩
end Go.Proofs.Ybulkbopq
