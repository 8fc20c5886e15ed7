/-
  The numbers under which this dump holds sync.RWMutex's functions and types (the reader's side), and that it holds them: checked by the kernel as it is compiled.
-/
import Derived.Test.Qxb6609098aProg
import Derived.Conc.RwLib
import Derived.Conc.RwLone
import Derived.KernelRfl
namespace Go.Proofs.Qxb6609098a
abbrev Try.rwLink : Go.Conc.Locks.RwLink := { lock := 48, unlock := 49, ilock := 54, iunlock := 55, lockSlow := 64, unlockSlow := 67, disable := 60, enable := 62, acquire := 63, relMerge := 65, cas32 := 61, add32 := 66, tMutex := 86, tIMutex := 84, tPMutex := 162, tPIMutex := 0, tPI32 := 167, tUP := 169, tNoCopy := 82, tU32 := 45, rlock := 58, runlock := 59, wlock := 0, wunlock := 0, i32add := 69, raceRead := 68, release := 0, rUnlockSlow := 71, semacqR := 70, semacqW := 0, semrel := 80, sfatal := 79, tRW := 143, tPRW := 177, tAI32 := 141, tPAI32 := 184, tPU32 := 180, tANoCopy := 139 }
theorem Try.rwCore : Go.Conc.Locks.RwCore Try.prog Try.rwLink :=
  ⟨Try.func69, Try.func68, Try.func60, Try.func62, Try.func63, Try.func65, Try.func66, Try.underlying143, Try.runUnderlying143, Try.sizeOf143, Try.isAgg143, Try.zeroValue143, Try.underlying141, Try.runUnderlying141, Try.sizeOf141, Try.isAgg141, Try.zeroValue141, Try.underlying177, Try.runUnderlying177, Try.sizeOf177, Try.isAgg177, Try.zeroValue177, Try.underlying184, Try.runUnderlying184, Try.sizeOf184, Try.isAgg184, Try.zeroValue184, Try.underlying180, Try.runUnderlying180, Try.sizeOf180, Try.isAgg180, Try.zeroValue180, Try.underlying139, Try.runUnderlying139, Try.sizeOf139, Try.isAgg139, Try.zeroValue139, Try.underlying45, Try.runUnderlying45, Try.sizeOf45, Try.isAgg45, Try.zeroValue45, Try.underlying86, Try.runUnderlying86, Try.sizeOf86, Try.isAgg86, Try.zeroValue86, Try.underlying162, Try.runUnderlying162, Try.sizeOf162, Try.isAgg162, Try.zeroValue162, Try.underlying167, Try.runUnderlying167, Try.sizeOf167, Try.isAgg167, Try.zeroValue167, Try.underlying169, Try.runUnderlying169, Try.sizeOf169, Try.isAgg169, Try.zeroValue169, Try.underlying21, Try.runUnderlying21, Try.sizeOf21, Try.isAgg21, Try.zeroValue21, (by kernel_rfl), (by kernel_rfl)⟩
theorem Try.rwRLib : Go.Conc.Locks.RwRLib Try.prog Try.rwLink := ⟨Try.rwCore, Try.func58, Try.func59⟩
end Go.Proofs.Qxb6609098a
