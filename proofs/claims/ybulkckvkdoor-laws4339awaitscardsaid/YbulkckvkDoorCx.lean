import Derived.Test.YbulkckvkDoorEn
import Derived.Laws.EntriesVeiled
namespace Go.Proofs.YbulkckvkDoor
open Go.RowKit Go.Conc
set_option linter.unusedVariables false

theorem run_neq_chan_nil (w : World) (r : Option Nat) :
    (binOp .neq 24 (.chan r) (.chan none)).run Ybad.prog w = .ok (.bool (!r.isNone)) w := by
  have h : ∀ d, (Op.equalIn (d + 1) 24 (.chan r) (.chan none)).run Ybad.prog w = .ok r.isNone w := fun d => by
    cases r <;> simp [Op.equalIn, run_underlying Ybad.underlying24]
  simp only [binOp]
  simp [Op.equal, Op.maxDepth, h 9999]

set_option maxRecDepth 100000 in
set_option maxHeartbeats 400000 in
theorem err_calls {w : World} {kb mk nb nv cb cl : Nat} {K m calls dones errs mu : Int} {clo : Bool} {chg err fin gv : Value} (h : Env w kb mk nb nv cb cl K m calls dones errs mu clo chg err fin gv) (he : IntKind.wrap .i64 (errs + 1) = errs + 1) :
    Calls Ybad.prog 51 #[.pointer (some ⟨cb, 0, none⟩)] w fun e w' => e = .returned err ∧ w' = w.setCell ⟨cb, 2, none⟩ (.int .i64 (errs + 1)) := by
  have c2 := h.c2
  have c3' := (h.setErrs (errs + 1)).c3
  have f5 := h.f5
  go_enter Ybad.func51, Ybad.ntmps51
  go_wp2
  go_ret
  refine ⟨rfl, rfl⟩

set_option maxRecDepth 100000 in
set_option maxHeartbeats 400000 in
theorem done_calls {w : World} {kb mk nb nv cb cl : Nat} {K m calls dones errs mu : Int} {clo : Bool} {chg err gv : Value} {fin : Option Nat} (h : Env w kb mk nb nv cb cl K m calls dones errs mu clo chg err (.chan fin) gv) (he : IntKind.wrap .i64 (dones + 1) = dones + 1) :
    Calls Ybad.prog 50 #[.pointer (some ⟨cb, 0, none⟩)] w fun e w' => e = .returned (.chan (if K < dones + 1 then fin else none)) ∧ ∃ q, w' = (w.setCell ⟨cb, 1, none⟩ (.int .i64 (dones + 1))).drewN q := by
  have c1 := h.c1
  have f4 := h.f4
  have h1 := h.setDones (dones + 1)
  have hne := run_neq_chan_nil
  obtain ⟨w1, hw1⟩ : ∃ w1, w1 = w.setCell ⟨cb, 1, none⟩ (.int .i64 (dones + 1)) := ⟨_, rfl⟩
  rw [← hw1] at h1
  go_enter Ybad.func50, Ybad.ntmps50
  go_wp2
  rw [← hw1]
  have Hw : Hid (w1 = w.setCell ⟨cb, 1, none⟩ (.int .i64 (dones + 1))) := hw1
  clear hw1
  have d0 := h1.c0
  have d1 := h1.c1
  have d4 := h1.c4
  by_cases hK : K < dones + 1
  · have hd : decide (K < dones + 1) = true := by simpa using hK
    cases fin with
    | none =>
      go_quiet (fail)
      go_wp2
      go_ret
      refine ⟨by simp, nq, by rw [Hw.out]⟩
    | some f =>
      go_quiet (fail)
      go_wp2
      go_ret
      refine ⟨by simp, nq, by rw [Hw.out]⟩
  · have hd : decide (K < dones + 1) = false := by simpa using hK
    go_quiet (fail)
    go_wp2
    go_ret
    refine ⟨by simp, nq, by rw [Hw.out]⟩
end Go.Proofs.YbulkckvkDoor
