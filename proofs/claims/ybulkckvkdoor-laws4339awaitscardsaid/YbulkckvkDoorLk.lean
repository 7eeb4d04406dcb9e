import Derived.Test.YbulkckvkDoorRows
import Derived.Conc.MuLone
import Derived.KernelRfl
namespace Go.Proofs.YbulkckvkDoor
abbrev muLink : Go.Conc.Locks.MuLink := { lock := 8, unlock := 9, ilock := 10, iunlock := 11, lockSlow := 16, unlockSlow := 19, disable := 12, enable := 14, acquire := 15, relMerge := 17, cas32 := 13, add32 := 18, tMutex := 58, tIMutex := 56, tPMutex := 84, tPIMutex := 85, tPI32 := 87, tUP := 49, tNoCopy := 37, tU32 := 43 }
set_option maxRecDepth 100000 in
theorem muLib : Go.Conc.Locks.MuLib Ybad.prog muLink := by
  constructor
  all_goals (intros; kernel_rfl)
end Go.Proofs.YbulkckvkDoor
