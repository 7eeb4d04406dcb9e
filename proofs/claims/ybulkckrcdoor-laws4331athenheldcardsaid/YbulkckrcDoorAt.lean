import Derived.Test.YbulkckrcDoorRows
import Derived.WalkKit
import Derived.WalkSpells
import Derived.WalkLawsBesides
import Derived.Deep.LoopGhost
import Derived.Deep.QuietTactic
import Derived.Deep.RegionWith
import Derived.BigQuiet
namespace Go.Proofs.YbulkckrcDoor
open Go.RowKit
set_option linter.unusedVariables false
set_option maxRecDepth 100000

/-- (*atomic.Uint64).Load -/
theorem u64_load (b o : Nat) (x : Int) (w : World) (hc : w.cell? ⟨b, o, none⟩ = some (.int .u64 x)) :
    Calls Ybad.prog 9 #[.pointer (some ⟨b, o, none⟩)] w fun e w' => e = .returned (.int .u64 x) ∧ w' = w := by
  have hl := run_call_load (P := Ybad.prog) Ybad.func19 (by kernel_rfl) (by kernel_rfl) (by kernel_rfl) .u64 (by kernel_rfl) hc
  go_enter Ybad.func9, Ybad.ntmps9
  go_wp2
  go_ret
  exact ⟨rfl, rfl⟩

/-- (*atomic.Uint64).Store -/
theorem u64_store (b o : Nat) (x : Value) (y : Int) (w : World) (hc : w.cell? ⟨b, o, none⟩ = some x) (hz : w.frozen? ⟨b, o, none⟩ = false) :
    Calls Ybad.prog 8 #[.pointer (some ⟨b, o, none⟩), .int .u64 y] w fun e w' => e = .returned (.tuple #[]) ∧ w' = w.setCell ⟨b, o, none⟩ (.int .u64 y) := by
  have hl := run_call_store (P := Ybad.prog) Ybad.func18 (by kernel_rfl) (by kernel_rfl) (by kernel_rfl) (by kernel_rfl) (k := .u64) (y := y) hc hz
  go_enter Ybad.func8, Ybad.ntmps8
  go_wp2
  go_end0
  exact ⟨rfl, rfl⟩

/-- (*atomic.Bool).Load of one that is not set -/
theorem b_load (b o : Nat) (w : World) (hc : w.cell? ⟨b, o, none⟩ = some (.int .u32 0)) :
    Calls Ybad.prog 11 #[.pointer (some ⟨b, o, none⟩)] w fun e w' => e = .returned (.bool false) ∧ w' = w := by
  have hl := run_call_load (P := Ybad.prog) Ybad.func21 (by kernel_rfl) (by kernel_rfl) (by kernel_rfl) .u32 (by kernel_rfl) hc
  go_enter Ybad.func11, Ybad.ntmps11
  go_wp2
  go_ret
  exact ⟨rfl, rfl⟩

end Go.Proofs.YbulkckrcDoor
