/-
  NARROWER THAN 'FOR EVERY INPUT', by the rows' own cells (each row's printed sentence says how): LawS4331AThenHeld: ifaces, laid.
  DERIVED. THE GIVEN ROWS OF THIS SEAT. 1 by the template 'for every input the law returns true; each argument reads behind the call as it read before'; 0 by the template 'total and deterministic' (their statements: YbulkckrcDoorTotals.lean).
  GIVEN WITH THE SEED: the statements are not yours to turn. If you find one false, say at which input.
  Laid BY PROGRAM, IN A SANDBOX (cutbox-rows.mjs): the forced cells as the released guide's own fill.sh prints them over the translation 5f209ca2c71e5b79… (all of the seat's roots in one cut). By AI agents, Wed Nov 11 2026. No macro, syntax, notation, axiom, sorry.
-/
import Derived.Test.YbulkckrcDoorChecked
import GoSem.Claim
import GoSem.ClaimJoined
import GoSem.ClaimMapViews
import Derived.JoinedTies
import Derived.KernelRfl
namespace Go.Proofs.YbulkckrcDoor
/- THE CELL 'sum', in the pinned program and in every row, IS THE sha256 OF THE DUMP (.gsa) THAT YbulkckrcDoorProg.lean LOADS. Nothing in Lean hashes anything: it is a label: what it is worth is what the hold of that sum in a sandbox is worth. -/
noncomputable def Ybad.pinned : Pinned := { name := "ybulkckrcdoor", sum := "5f209ca2c71e5b797e86a29877454904db92fbdc7e5acda7a2e3e2c158d7fcb2", checked := Ybad.checked }
namespace Rows
def none {H : Type} : Left H := { results := [], args := [] }

/- WHAT THE LISTED PACKAGE-LEVEL VARIABLES READ AS WHEN THE CALL BEGINS. Each datum BY PROGRAM (the guide's laid-datum.mjs) off the statement by which the dump's own 'gosem.cut.vars' lays the variable. In a bare row this is a premise. The card (YbulkckrcDoorCards.lean) ties it to the program's text. -/
def laid_example_com_spindrift_spindrift_fanout_ErrClosed {H : Type} : DataW H := .iface "*errors.errorString" (.ptr (.agg [.lit (.string [102, 97, 110, 111, 117, 116, 58, 32, 99, 108, 111, 115, 101, 100])]))

/-- 'fanout.LawS4331AThenHeld': WHATEVER THE INPUT: true; the input reads as it did. -/
def lawS4331AThenHeldSpec : ChangeSpec := { name := "lawS4331AThenHeld", vars := ["example.com/spindrift/spindrift/fanout.ErrClosed"], fn := fun _ => fun
  | [d1, d2, d3, d4, d5, g1] => { results := [.lit (.bool true)], args := [d1, d2, d3, d4, d5], vars := [g1] }
  | _ => none }
def lawS4331AThenHeldRow : OpenClaim := { program := "ybulkckrcdoor", sum := "5f209ca2c71e5b797e86a29877454904db92fbdc7e5acda7a2e3e2c158d7fcb2", func := "example.com/spindrift/spindrift/fanout.LawS4331AThenHeld", spec := "lawS4331AThenHeld", inPlace := ["sync/atomic.StorePointer", "sync/atomic.StoreUint64", "sync/atomic.LoadUint64", "sync/atomic.LoadPointer", "sync/atomic.LoadUint32", "sync/atomic.SwapPointer", "(runtime.Cleanup).Stop", "sync/atomic.AddInt64", "sync/atomic.LoadInt64", "(*internal/sync.Mutex).Lock", "internal/race.Disable", "sync/atomic.CompareAndSwapInt32", "internal/race.Enable", "internal/race.Acquire", "(*internal/sync.Mutex).lockSlow", "internal/sync.runtime_canSpin", "internal/sync.runtime_doSpin", "internal/sync.throw", "internal/sync.runtime_nanotime", "internal/sync.runtime_SemacquireMutex", "sync/atomic.AddInt32", "(*sync.Cond).Signal", "(*sync.copyChecker).check", "sync.runtime_notifyListNotifyOne", "(*internal/sync.Mutex).Unlock", "internal/race.ReleaseMerge", "(*internal/sync.Mutex).unlockSlow", "internal/sync.fatal", "internal/sync.runtime_Semrelease", "runtime.Gosched", "(*sync.Cond).Wait", "sync.runtime_notifyListAdd", "internal/race.Read", "sync.runtime_notifyListWait"], unfollowed := true, recurses := true, named := ["example.com/spindrift/spindrift/fanout.ErrClosed"], ifaces := true, apart := false, laid := [("example.com/spindrift/spindrift/fanout.ErrClosed", laid_example_com_spindrift_spindrift_fanout_ErrClosed)] }
def LawS4331AThenHeldSaid : Prop := lawS4331AThenHeldRow.holds Ybad.pinned (OpenSpec.ofChange lawS4331AThenHeldSpec)

/-- ITS FALSE NEIGHBOUR: 'it returns false'. Refute it at one input. -/
def lawS4331AThenHeldWrong : ChangeSpec := { name := "lawS4331AThenHeld", vars := ["example.com/spindrift/spindrift/fanout.ErrClosed"], fn := fun _ => fun
  | [d1, d2, d3, d4, d5, g1] => { results := [.lit (.bool false)], args := [d1, d2, d3, d4, d5], vars := [g1] }
  | _ => none }
def LawS4331AThenHeldWrongFalsely : Prop := lawS4331AThenHeldRow.holds Ybad.pinned (OpenSpec.ofChange lawS4331AThenHeldWrong)

end Rows
end Go.Proofs.YbulkckrcDoor
