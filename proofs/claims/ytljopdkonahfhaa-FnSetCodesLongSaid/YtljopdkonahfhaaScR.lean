/- sync.RWMutex's reader in this program: the numbers of its functions and types, and that the program holds them. -/
import Derived.Test.YtljopdkonahfhaaWk
import Derived.Conc.RwLib
import Derived.Conc.RwLone
import Derived.KernelRfl
namespace Go.Proofs.Ytljopdkonahfhaa
open Go.RowKit

abbrev rwLink : Go.Conc.Locks.RwLink := { lock := 0, unlock := 0, ilock := 0, iunlock := 0, lockSlow := 0, unlockSlow := 0, disable := 22, enable := 25, acquire := 26, relMerge := 27, cas32 := 0, add32 := 30, tMutex := 51, tIMutex := 49, tPMutex := 71, tPIMutex := 0, tPI32 := 79, tUP := 70, tNoCopy := 46, tU32 := 47, rlock := 16, runlock := 17, wlock := 0, wunlock := 0, i32add := 23, raceRead := 21, release := 0, rUnlockSlow := 28, semacqR := 24, semacqW := 0, semrel := 32, sfatal := 31, tRW := 56, tPRW := 68, tAI32 := 54, tPAI32 := 77, tPU32 := 74, tANoCopy := 52 }
theorem rwCore : Go.Conc.Locks.RwCore Try.prog rwLink := by
  constructor
  all_goals (intros; kernel_rfl)
theorem rwRLib : Go.Conc.Locks.RwRLib Try.prog rwLink := ⟨rwCore, by kernel_rfl, by kernel_rfl⟩
end Go.Proofs.Ytljopdkonahfhaa
