import Derived.Test.YbulkckvkDoorRows
import Derived.WalkKit
import Derived.WalkSpells
import Derived.WalkLawsBesides
import Derived.Deep.LoopGhost
import Derived.Deep.QuietTactic
import Derived.Deep.RegionWith
import Derived.BigQuiet
import Derived.Conc.LoneCalls
import Derived.LaidEql
namespace Go.Proofs.YbulkckvkDoor
open Go.RowKit Go.Conc
set_option linter.unusedVariables false

theorem bytes36 : (Ybad.prog.info? 36).map (·.bytes) = some 0 := by kernel_rfl
/-- 'make(chan struct{})' -/
theorem mk0 (w : World) : (Instr.makeChan 24 (.int .i64 0)).run Ybad.prog w = .ok (.chan (some w.heap.size)) (w.alloc (.chan 0 #[] false 0 0 false)) := by
  obtain ⟨i, hi, hb⟩ := Option.map_eq_some_iff.1 bytes36
  simpa using run_makeChan (P := Ybad.prog) (w := w) Ybad.underlying24 hi .i64 0 (by omega) (by rw [hb]; omega)

set_option maxRecDepth 100000 in
set_option maxHeartbeats 400000 in
theorem closed_chan (w : World) : Calls Ybad.prog 5 #[] w fun e w' => e = .returned (.chan (some w.heap.size)) ∧ Below w.heap.size w w' ∧ w'.heap.size = w.heap.size + 1 ∧ w'.heap[w.heap.size]? = some (.chan 0 #[] true 0 0 false) := by
  have hmc := mk0
  have hcl := fun ats ty => run_close_open (P := Ybad.prog) (w := w.alloc (.chan 0 #[] false 0 0 false)) ats ty (heap_alloc_new w _)
  go_enter Ybad.func5, Ybad.ntmps5
  go_wp2
  go_ret
  refine ⟨rfl, ⟨rfl, rfl, rfl, by simp, fun k hk => ?_⟩, by simp, ?_⟩
  · show ((w.heap.push _).setIfInBounds w.heap.size _)[k]? = w.heap[k]?
    rw [Array.getElem?_setIfInBounds_ne (by omega), Array.getElem?_push, if_neg (by omega)]
  · show ((w.heap.push _).setIfInBounds w.heap.size _)[w.heap.size]? = _
    rw [Array.getElem?_setIfInBounds_self_of_lt (by simp)]

end Go.Proofs.YbulkckvkDoor
