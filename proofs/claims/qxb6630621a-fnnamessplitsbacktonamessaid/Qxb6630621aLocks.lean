/-
  The numbers under which this dump holds sync.RWMutex's reader's side, and that it holds it (after Derived/Test/RwboxLocks.lean, the reader's part alone; the numbers read off the dump). 0 stands where the reader's side names nothing.
-/
import Derived.Test.Qxb6630621aProg
import Derived.Conc.RwLib
import Derived.KernelRfl
namespace Go.Proofs
abbrev Try.rwLink : Go.Conc.Locks.RwLink := { lock := 54, unlock := 0, ilock := 0, iunlock := 0, lockSlow := 0, unlockSlow := 0, disable := 19, enable := 22, acquire := 23, relMerge := 24, cas32 := 0, add32 := 29, tMutex := 44, tIMutex := 42, tPMutex := 56, tPIMutex := 0, tPI32 := 72, tUP := 55, tNoCopy := 39, tU32 := 40, rlock := 15, runlock := 16, wlock := 53, wunlock := 0, i32add := 20, raceRead := 18, release := 0, rUnlockSlow := 25, semacqR := 21, semacqW := 0, semrel := 31, sfatal := 30, tRW := 49, tPRW := 53, tAI32 := 47, tPAI32 := 70, tPU32 := 59, tANoCopy := 45 }
theorem Try.rwCore : Go.Conc.Locks.RwCore Try.prog Try.rwLink :=
  ⟨Try.func20, Try.func18, Try.func19, Try.func22, Try.func23, Try.func24, Try.func29, Try.underlying49, Try.runUnderlying49, Try.sizeOf49, Try.isAgg49, Try.zeroValue49, Try.underlying47, Try.runUnderlying47, Try.sizeOf47, Try.isAgg47, Try.zeroValue47, Try.underlying53, Try.runUnderlying53, Try.sizeOf53, Try.isAgg53, Try.zeroValue53, Try.underlying70, Try.runUnderlying70, Try.sizeOf70, Try.isAgg70, Try.zeroValue70, Try.underlying59, Try.runUnderlying59, Try.sizeOf59, Try.isAgg59, Try.zeroValue59, Try.underlying45, Try.runUnderlying45, Try.sizeOf45, Try.isAgg45, Try.zeroValue45, Try.underlying40, Try.runUnderlying40, Try.sizeOf40, Try.isAgg40, Try.zeroValue40, Try.underlying44, Try.runUnderlying44, Try.sizeOf44, Try.isAgg44, Try.zeroValue44, Try.underlying56, Try.runUnderlying56, Try.sizeOf56, Try.isAgg56, Try.zeroValue56, Try.underlying72, Try.runUnderlying72, Try.sizeOf72, Try.isAgg72, Try.zeroValue72, Try.underlying55, Try.runUnderlying55, Try.sizeOf55, Try.isAgg55, Try.zeroValue55, Try.underlying21, Try.runUnderlying21, Try.sizeOf21, Try.isAgg21, Try.zeroValue21, (by kernel_rfl), (by kernel_rfl)⟩
theorem Try.rwRLib : Go.Conc.Locks.RwRLib Try.prog Try.rwLink := ⟨Try.rwCore, Try.func15, Try.func16⟩
end Go.Proofs
