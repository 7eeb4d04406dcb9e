/-
  No cell of these rows narrows 'for every input' (looked for: loops, veiled, ifaces, maps, wideKeys, modest, calm, conditions, laid).
  DERIVED. THE GIVEN ROWS OF THIS SEAT. 3 by the template 'for every input the law returns true; each argument reads behind the call as it read before'; 0 by the template 'total and deterministic' (their statements: YbulkckrcTotals.lean).
  GIVEN WITH THE SEED: the statements are not yours to turn. If you find one false, say at which input.
  Laid BY PROGRAM, IN A SANDBOX (cutbox-rows.mjs): the forced cells as the released guide's own fill.sh prints them over the translation 657aff61b1d1210e… (all of the seat's roots in one cut). By AI agents, Wed Nov 11 2026. No macro, syntax, notation, axiom, sorry.
-/
import Derived.Test.YbulkckrcChecked
import GoSem.Claim
import GoSem.ClaimJoined
import GoSem.ClaimMapViews
import Derived.JoinedTies
import Derived.KernelRfl
namespace Go.Proofs.Ybulkckrc
/- THE CELL 'sum', in the pinned program and in every row, IS THE sha256 OF THE DUMP (.gsa) THAT YbulkckrcProg.lean LOADS. Nothing in Lean hashes anything: it is a label: what it is worth is what the hold of that sum in a sandbox is worth. -/
noncomputable def Yba.pinned : Pinned := { name := "ybulkckrc", sum := "657aff61b1d1210e86a42d7a11767c7293d09a16a3a523cd5f5a130496ab5141", checked := Yba.checked }
namespace Rows
def none {H : Type} : Left H := { results := [], args := [] }

/-- 'fanout.LawS4331AExact': WHATEVER THE INPUT: true; the input reads as it did. -/
def lawS4331AExactSpec : ChangeSpec := { name := "lawS4331AExact", fn := fun _ => fun
  | [d1, d2, d3, d4, d5, d6] => { results := [.lit (.bool true)], args := [d1, d2, d3, d4, d5, d6] }
  | _ => none }
def lawS4331AExactRow : OpenClaim := { program := "ybulkckrc", sum := "657aff61b1d1210e86a42d7a11767c7293d09a16a3a523cd5f5a130496ab5141", func := "example.com/spindrift/spindrift/fanout.LawS4331AExact", spec := "lawS4331AExact", inPlace := ["sync/atomic.StorePointer", "sync/atomic.StoreUint64", "sync/atomic.LoadUint64", "sync/atomic.LoadPointer"], apart := false }
def LawS4331AExactSaid : Prop := lawS4331AExactRow.holds Yba.pinned (OpenSpec.ofChange lawS4331AExactSpec)

/-- ITS FALSE NEIGHBOUR: 'it returns false'. Refute it at one input. -/
def lawS4331AExactWrong : ChangeSpec := { name := "lawS4331AExact", fn := fun _ => fun
  | [d1, d2, d3, d4, d5, d6] => { results := [.lit (.bool false)], args := [d1, d2, d3, d4, d5, d6] }
  | _ => none }
def LawS4331AExactWrongFalsely : Prop := lawS4331AExactRow.holds Yba.pinned (OpenSpec.ofChange lawS4331AExactWrong)

/-- 'fanout.LawS4331BReport': WHATEVER THE INPUT: true; the input reads as it did. -/
def lawS4331BReportSpec : ChangeSpec := { name := "lawS4331BReport", fn := fun _ => fun
  | [d1, d2, d3, d4, d5] => { results := [.lit (.bool true)], args := [d1, d2, d3, d4, d5] }
  | _ => none }
def lawS4331BReportRow : OpenClaim := { program := "ybulkckrc", sum := "657aff61b1d1210e86a42d7a11767c7293d09a16a3a523cd5f5a130496ab5141", func := "example.com/spindrift/spindrift/fanout.LawS4331BReport", spec := "lawS4331BReport", inPlace := ["sync/atomic.StoreUint64", "sync/atomic.StoreInt64", "sync/atomic.LoadUint64", "sync/atomic.AddInt64", "sync/atomic.LoadInt64", "(*internal/sync.Mutex).Lock", "internal/race.Disable", "sync/atomic.CompareAndSwapInt32", "internal/race.Enable", "internal/race.Acquire", "(*internal/sync.Mutex).lockSlow", "internal/sync.runtime_canSpin", "internal/sync.runtime_doSpin", "internal/sync.throw", "internal/sync.runtime_nanotime", "internal/sync.runtime_SemacquireMutex", "sync/atomic.AddInt32", "(*sync.Cond).Signal", "(*sync.copyChecker).check", "sync.runtime_notifyListNotifyOne", "(*internal/sync.Mutex).Unlock", "internal/race.ReleaseMerge", "(*internal/sync.Mutex).unlockSlow", "internal/sync.fatal", "internal/sync.runtime_Semrelease"], apart := false }
def LawS4331BReportSaid : Prop := lawS4331BReportRow.holds Yba.pinned (OpenSpec.ofChange lawS4331BReportSpec)

/-- ITS FALSE NEIGHBOUR: 'it returns false'. Refute it at one input. -/
def lawS4331BReportWrong : ChangeSpec := { name := "lawS4331BReport", fn := fun _ => fun
  | [d1, d2, d3, d4, d5] => { results := [.lit (.bool false)], args := [d1, d2, d3, d4, d5] }
  | _ => none }
def LawS4331BReportWrongFalsely : Prop := lawS4331BReportRow.holds Yba.pinned (OpenSpec.ofChange lawS4331BReportWrong)

/-- 'fanout.LawS4331BTwice': WHATEVER THE INPUT: true; the input reads as it did. -/
def lawS4331BTwiceSpec : ChangeSpec := { name := "lawS4331BTwice", fn := fun _ => fun
  | [d1, d2, d3, d4, d5] => { results := [.lit (.bool true)], args := [d1, d2, d3, d4, d5] }
  | _ => none }
def lawS4331BTwiceRow : OpenClaim := { program := "ybulkckrc", sum := "657aff61b1d1210e86a42d7a11767c7293d09a16a3a523cd5f5a130496ab5141", func := "example.com/spindrift/spindrift/fanout.LawS4331BTwice", spec := "lawS4331BTwice", inPlace := ["sync/atomic.StoreUint64", "sync/atomic.StoreInt64", "sync/atomic.LoadUint64", "sync/atomic.AddInt64", "sync/atomic.LoadInt64", "(*internal/sync.Mutex).Lock", "internal/race.Disable", "sync/atomic.CompareAndSwapInt32", "internal/race.Enable", "internal/race.Acquire", "(*internal/sync.Mutex).lockSlow", "internal/sync.runtime_canSpin", "internal/sync.runtime_doSpin", "internal/sync.throw", "internal/sync.runtime_nanotime", "internal/sync.runtime_SemacquireMutex", "sync/atomic.AddInt32", "(*sync.Cond).Signal", "(*sync.copyChecker).check", "sync.runtime_notifyListNotifyOne", "(*internal/sync.Mutex).Unlock", "internal/race.ReleaseMerge", "(*internal/sync.Mutex).unlockSlow", "internal/sync.fatal", "internal/sync.runtime_Semrelease"], apart := false }
def LawS4331BTwiceSaid : Prop := lawS4331BTwiceRow.holds Yba.pinned (OpenSpec.ofChange lawS4331BTwiceSpec)

/-- ITS FALSE NEIGHBOUR: 'it returns false'. Refute it at one input. -/
def lawS4331BTwiceWrong : ChangeSpec := { name := "lawS4331BTwice", fn := fun _ => fun
  | [d1, d2, d3, d4, d5] => { results := [.lit (.bool false)], args := [d1, d2, d3, d4, d5] }
  | _ => none }
def LawS4331BTwiceWrongFalsely : Prop := lawS4331BTwiceRow.holds Yba.pinned (OpenSpec.ofChange lawS4331BTwiceWrong)

end Rows
end Go.Proofs.Ybulkckrc
