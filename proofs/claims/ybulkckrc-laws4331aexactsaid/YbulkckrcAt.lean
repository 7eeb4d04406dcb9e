import Derived.Test.YbulkckrcRows
import Derived.WalkKit
import Derived.WalkSpells
import Derived.WalkLawsBesides
import Derived.Deep.LoopGhost
import Derived.Deep.QuietTactic
import Derived.Deep.RegionWith
import Derived.BigQuiet
namespace Go.Proofs.Ybulkckrc
open Go.RowKit
set_option linter.unusedVariables false
set_option maxRecDepth 100000

/-- (*atomic.Uint64).Load -/
theorem u64_load (b o : Nat) (x : Int) (w : World) (hc : w.cell? ⟨b, o, none⟩ = some (.int .u64 x)) :
    Calls Yba.prog 7 #[.pointer (some ⟨b, o, none⟩)] w fun e w' => e = .returned (.int .u64 x) ∧ w' = w := by
  have hl := run_call_load (P := Yba.prog) Yba.func15 (by kernel_rfl) (by kernel_rfl) (by kernel_rfl) .u64 (by kernel_rfl) hc
  go_enter Yba.func7, Yba.ntmps7
  go_wp2
  go_ret
  exact ⟨rfl, rfl⟩

/-- (*atomic.Uint64).Store -/
theorem u64_store (b o : Nat) (x : Value) (y : Int) (w : World) (hc : w.cell? ⟨b, o, none⟩ = some x) (hz : w.frozen? ⟨b, o, none⟩ = false) :
    Calls Yba.prog 10 #[.pointer (some ⟨b, o, none⟩), .int .u64 y] w fun e w' => e = .returned (.tuple #[]) ∧ w' = w.setCell ⟨b, o, none⟩ (.int .u64 y) := by
  have hl := run_call_store (P := Yba.prog) Yba.func17 (by kernel_rfl) (by kernel_rfl) (by kernel_rfl) (by kernel_rfl) (k := .u64) (y := y) hc hz
  go_enter Yba.func10, Yba.ntmps10
  go_wp2
  go_end0
  exact ⟨rfl, rfl⟩

/-- (*atomic.Int64).Store -/
theorem i64_store (b o : Nat) (x : Value) (y : Int) (w : World) (hc : w.cell? ⟨b, o, none⟩ = some x) (hz : w.frozen? ⟨b, o, none⟩ = false) :
    Calls Yba.prog 11 #[.pointer (some ⟨b, o, none⟩), .int .i64 y] w fun e w' => e = .returned (.tuple #[]) ∧ w' = w.setCell ⟨b, o, none⟩ (.int .i64 y) := by
  have hl := run_call_store (P := Yba.prog) Yba.func18 (by kernel_rfl) (by kernel_rfl) (by kernel_rfl) (by kernel_rfl) (k := .i64) (y := y) hc hz
  go_enter Yba.func11, Yba.ntmps11
  go_wp2
  go_end0
  exact ⟨rfl, rfl⟩

/-- (*atomic.Int64).Load -/
theorem i64_load (b o : Nat) (x : Int) (w : World) (hc : w.cell? ⟨b, o, none⟩ = some (.int .i64 x)) :
    Calls Yba.prog 13 #[.pointer (some ⟨b, o, none⟩)] w fun e w' => e = .returned (.int .i64 x) ∧ w' = w := by
  have hl := run_call_load (P := Yba.prog) Yba.func21 (by kernel_rfl) (by kernel_rfl) (by kernel_rfl) .i64 (by kernel_rfl) hc
  go_enter Yba.func13, Yba.ntmps13
  go_wp2
  go_ret
  exact ⟨rfl, rfl⟩

/-- (*atomic.Int64).Add -/
theorem i64_add (b o : Nat) (x y : Int) (w : World) (hc : w.cell? ⟨b, o, none⟩ = some (.int .i64 x)) (hz : w.frozen? ⟨b, o, none⟩ = false) :
    Calls Yba.prog 19 #[.pointer (some ⟨b, o, none⟩), .int .i64 y] w fun e w' => e = .returned (.int .i64 (wrap64 (x + y))) ∧ w' = w.setCell ⟨b, o, none⟩ (.int .i64 (wrap64 (x + y))) := by
  have hl := run_call_add (P := Yba.prog) Yba.func23 (by kernel_rfl) (by kernel_rfl) (by kernel_rfl) .i64 (by kernel_rfl) (y := y) (s := wrap64 (x + y)) hc hz (by simp [go_sem, wrap64, IntKind.wrap_i64])
  go_enter Yba.func19, Yba.ntmps19
  go_wp2
  go_ret
  exact ⟨rfl, rfl⟩

/-- (*park.List).Wake where nobody waits: nothing -/
theorem wake_none (b o : Nat) (w : World) (hc : w.cell? ⟨b, o, none⟩ = some (.int .i64 0)) :
    Calls Yba.prog 20 #[.pointer (some ⟨b, o, none⟩)] w fun e w' => e = .returned (.tuple #[]) ∧ w' = w := by
  go_enter Yba.func20, Yba.ntmps20
  go_wp2_with fail
  refine (i64_load _ _ _ _ hc).mono ?_
  rintro e w1 ⟨rfl, rfl⟩
  go_wp2
  go_end0
  exact ⟨rfl, rfl⟩

end Go.Proofs.Ybulkckrc
