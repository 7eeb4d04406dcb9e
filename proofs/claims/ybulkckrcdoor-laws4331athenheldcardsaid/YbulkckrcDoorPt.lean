import Derived.Test.YbulkckrcDoorAt
import Derived.Test.YbulkckrcDoorBd
namespace Go.Proofs.YbulkckrcDoor
open Go.RowKit
set_option linter.unusedVariables false
set_option maxRecDepth 100000

section
variable {P : Program} {f : FuncId} {fn : Func}
/-- sync/atomic.LoadPointer: what the cell holds. -/
theorem run_call_loadp (hf : P.funcs[f]? = some fn) (hname : (fn.name == "runtime.NumGoroutine") = false) (hb : fn.body.isNone = true) (hn : Extern.findNext fn = none)
    (he : Extern.find fn = some (Extern.Atomic.loadT .ptr)) {a : Addr} {x : Option Addr} {w : World} (hc : w.cell? a = some (.pointer x)) :
    (callFunc f #[.pointer (some a)]).run P w = .ok (.value (.pointer x)) w := by
  rw [run_callFunc_extern hf hname hb hn he]
  change (Sem.run P (do Extern.Atomic.read .ptr (← asAddr (.pointer (some a)))) w).andThen _ = _
  simp [Extern.Atomic.read, asAddr, hc, Result.andThen]

/-- sync/atomic.StorePointer: the pointer is stored. -/
theorem run_call_storep (hf : P.funcs[f]? = some fn) (hname : (fn.name == "runtime.NumGoroutine") = false) (hb : fn.body.isNone = true) (hn : Extern.findNext fn = none)
    (he : Extern.find fn = some Extern.Atomic.storeT) {a : Addr} {y : Option Addr} {u : Value} {w : World} (hc : w.cell? a = some u) (hz : w.frozen? a = false) :
    (callFunc f #[.pointer (some a), .pointer y]).run P w = .ok (.value (.tuple #[])) (w.setCell a (.pointer y)) := by
  rw [run_callFunc_extern hf hname hb hn he]
  change (Sem.run P (do
    store (← asAddr (.pointer (some a))) (.pointer y) .atomic
    pure Extern.Atomic.none_) w).andThen _ = _
  simp [asAddr, hc, hz, run_store P w a (.pointer y) .atomic rfl, Result.andThen, Extern.Atomic.none_]
end

/-- A message in a block of its own. -/
def Msg (w : World) (mb : Nat) (n v : Int) : Prop := w.heap[mb]? = some (.cells #[.int .u64 n, .int .i64 v] 78 (0, 0))

theorem Msg.c0 {w : World} {mb : Nat} {n v : Int} (h : Msg w mb n v) : w.cell? ⟨mb, 0, none⟩ = some (.int .u64 n) := by
  unfold Msg at h
  simp [World.cell?, h]
theorem Msg.c1 {w : World} {mb : Nat} {n v : Int} (h : Msg w mb n v) : w.cell? ⟨mb, 1, none⟩ = some (.int .i64 v) := by
  unfold Msg at h
  simp [World.cell?, h]

theorem lies84 : liesAt Ybad.prog Ybad.prog.depth 78 (2 / Ybad.prog.cellsOf 78) 0 78 1 = true := by kernel_rfl

/-- an action that asks two types first -/
theorem by_types {P : Program} {w : World} {r : Result Value} {s t : TypeId} {A B : TypeDesc} (f : Sem Value) (M : TypeDesc → TypeDesc → Sem Value) (hf : f = (do
    let u ← underlying s
    let d ← underlying t
    M u d)) (hs : P.underlying s = some A) (ht : P.underlying t = some B) (h : (M A B).run P w = r) : f.run P w = r := by
  rw [hf]
  simp [run_underlying hs, run_underlying ht, h]

/-- '(*message)(p)' of the address of a message: the same address -/
theorem conv_back {w : World} {mb : Nat} {n v : Int} (h : Msg w mb n v) : (convert 35 64 (.pointer (some ⟨mb, 0, none⟩))).run Ybad.prog w = .ok (.pointer (some ⟨mb, 0, none⟩)) w := by
  unfold Msg at h
  obtain ⟨j, hj, hjs⟩ := Option.map_eq_some_iff.1 size84
  have hl := lies84
  simp only [convert]
  refine by_types _ _ rfl Ybad.underlying35 Ybad.underlying64 ?_
  refine by_types _ _ rfl Ybad.underlying35 Ybad.underlying64 ?_
  simp [Conv.seenAt, viewAt, variablesAt, sizeOf, typeInfo, hj, hjs, World.shape?, h, Result.andThen, hl]

/-- the way there: the same address -/
theorem conv_to {w : World} {mb : Nat} {n v : Int} (h : Msg w mb n v) : (convert 64 35 (.pointer (some ⟨mb, 0, none⟩))).run Ybad.prog w = .ok (.pointer (some ⟨mb, 0, none⟩)) w := by
  unfold Msg at h
  obtain ⟨j, hj, hjs⟩ := Option.map_eq_some_iff.1 size84
  simp only [convert]
  refine by_types _ _ rfl Ybad.underlying64 Ybad.underlying35 ?_
  refine by_types _ _ rfl Ybad.underlying64 Ybad.underlying35 ?_
  simp [Conv.seenAt, viewAt, cellsIn, sizeOf, typeInfo, hj, hjs, World.shape?, h, Result.andThen]

/-- (*atomic.Pointer).Load -/
theorem p_load (b o mb : Nat) (n v : Int) (w : World) (hc : w.cell? ⟨b, o, none⟩ = some (.pointer (some ⟨mb, 0, none⟩))) (hm : Msg w mb n v) :
    Calls Ybad.prog 10 #[.pointer (some ⟨b, o, none⟩)] w fun e w' => e = .returned (.pointer (some ⟨mb, 0, none⟩)) ∧ w' = w := by
  have hl := run_call_loadp (P := Ybad.prog) Ybad.func20 (by kernel_rfl) (by kernel_rfl) (by kernel_rfl) (by kernel_rfl) hc
  have hb := conv_back hm
  clear hm
  go_enter Ybad.func10, Ybad.ntmps10
  go_wp2
  go_ret
  exact ⟨rfl, rfl⟩

/-- (*atomic.Pointer).Store -/
theorem p_store (b o mb : Nat) (x : Value) (n v : Int) (w : World) (hc : w.cell? ⟨b, o, none⟩ = some x) (hz : w.frozen? ⟨b, o, none⟩ = false) (hm : Msg w mb n v) :
    Calls Ybad.prog 7 #[.pointer (some ⟨b, o, none⟩), .pointer (some ⟨mb, 0, none⟩)] w fun e w' => e = .returned (.tuple #[]) ∧ w' = w.setCell ⟨b, o, none⟩ (.pointer (some ⟨mb, 0, none⟩)) := by
  have hl := run_call_storep (P := Ybad.prog) Ybad.func17 (by kernel_rfl) (by kernel_rfl) (by kernel_rfl) (by kernel_rfl) (y := some ⟨mb, 0, none⟩) hc hz
  have hb := conv_to hm
  clear hm
  go_enter Ybad.func7, Ybad.ntmps7
  go_wp2
  go_end0
  exact ⟨rfl, rfl⟩

end Go.Proofs.YbulkckrcDoor
