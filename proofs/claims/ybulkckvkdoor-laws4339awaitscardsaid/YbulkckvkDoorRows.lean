/-
  NARROWER THAN 'FOR EVERY INPUT', by the rows' own cells (each row's printed sentence says how): LawS4339AWaits: ifaces, laid.
  DERIVED. THE GIVEN ROWS OF THIS SEAT. 1 by the template 'for every input the law returns true; each argument reads behind the call as it read before'; 0 by the template 'total and deterministic' (their statements: YbulkckvkDoorTotals.lean).
  GIVEN WITH THE SEED: the statements are not yours to turn. If you find one false, say at which input.
  Laid BY PROGRAM, IN A SANDBOX (cutbox-rows.mjs): the forced cells as the released guide's own fill.sh prints them over the translation 77c7a9b29088fa77… (all of the seat's roots in one cut). By AI agents, Wed Nov 11 2026. No macro, syntax, notation, axiom, sorry.
-/
import Derived.Test.YbulkckvkDoorChecked
import GoSem.Claim
import GoSem.ClaimJoined
import GoSem.ClaimMapViews
import Derived.JoinedTies
import Derived.KernelRfl
namespace Go.Proofs.YbulkckvkDoor
/- THE CELL 'sum', in the pinned program and in every row, IS THE sha256 OF THE DUMP (.gsa) THAT YbulkckvkDoorProg.lean LOADS. Nothing in Lean hashes anything: it is a label: what it is worth is what the hold of that sum in a sandbox is worth. -/
noncomputable def Ybad.pinned : Pinned := { name := "ybulkckvkdoor", sum := "77c7a9b29088fa77ea2d877384167f1922764576a37c26919812eff3a7f3479f", checked := Ybad.checked }
namespace Rows
def none {H : Type} : Left H := { results := [], args := [] }

/- WHAT THE LISTED PACKAGE-LEVEL VARIABLES READ AS WHEN THE CALL BEGINS. Each datum BY PROGRAM (the guide's laid-datum.mjs) off the statement by which the dump's own 'gosem.cut.vars' lays the variable. In a bare row this is a premise. The card (YbulkckvkDoorCards.lean) ties it to the program's text. -/
def laid_example_com_ambit_ambit_node_ErrClosed {H : Type} : DataW H := .iface "*errors.errorString" (.ptr (.agg [.lit (.string [110, 111, 100, 101, 58, 32, 99, 108, 111, 115, 101, 100])]))

/-- 'node.LawS4339AWaits': WHATEVER THE INPUT: true; the input reads as it did. -/
def lawS4339AWaitsSpec : ChangeSpec := { name := "lawS4339AWaits", vars := ["example.com/ambit/ambit/node.ErrClosed"], fn := fun _ => fun
  | [d1, d2, d3, g1] => { results := [.lit (.bool true)], args := [d1, d2, d3], vars := [g1] }
  | _ => none }
def lawS4339AWaitsRow : OpenClaim := { program := "ybulkckvkdoor", sum := "77c7a9b29088fa77ea2d877384167f1922764576a37c26919812eff3a7f3479f", func := "example.com/ambit/ambit/node.LawS4339AWaits", spec := "lawS4339AWaits", inPlace := ["(*internal/sync.Mutex).Lock", "internal/race.Disable", "sync/atomic.CompareAndSwapInt32", "internal/race.Enable", "internal/race.Acquire", "(*internal/sync.Mutex).lockSlow", "internal/sync.runtime_canSpin", "internal/sync.runtime_doSpin", "internal/sync.throw", "internal/sync.runtime_nanotime", "internal/sync.runtime_SemacquireMutex", "sync/atomic.AddInt32", "(*internal/sync.Mutex).Unlock", "internal/race.ReleaseMerge", "(*internal/sync.Mutex).unlockSlow", "internal/sync.fatal", "internal/sync.runtime_Semrelease"], unfollowed := true, recurses := true, named := ["example.com/ambit/ambit/node.ErrClosed"], ifaces := true, plainKeys := false, apart := false, laid := [("example.com/ambit/ambit/node.ErrClosed", laid_example_com_ambit_ambit_node_ErrClosed)] }
def LawS4339AWaitsSaid : Prop := lawS4339AWaitsRow.holds Ybad.pinned (OpenSpec.ofChange lawS4339AWaitsSpec)

/-- ITS FALSE NEIGHBOUR: 'it returns false'. Refute it at one input. -/
def lawS4339AWaitsWrong : ChangeSpec := { name := "lawS4339AWaits", vars := ["example.com/ambit/ambit/node.ErrClosed"], fn := fun _ => fun
  | [d1, d2, d3, g1] => { results := [.lit (.bool false)], args := [d1, d2, d3], vars := [g1] }
  | _ => none }
def LawS4339AWaitsWrongFalsely : Prop := lawS4339AWaitsRow.holds Ybad.pinned (OpenSpec.ofChange lawS4339AWaitsWrong)

end Rows
end Go.Proofs.YbulkckvkDoor
