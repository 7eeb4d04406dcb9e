/-
  DERIVED. GIVEN WITH THE SEED: THE CARDS: each row of YbulkckrcDoorRows.lean that lists a variable, with what it lists TIED to the program's text (the seventh form; the later family's looks); each row that meets fmt, with fmt's text TOLD by the authors' own Lean function (tested against real Go, not proved from fmt's source: count such statements apart). THE CARD IS WHAT COUNTS. Prove the row's statement (the work); the ties are given (YbulkckrcDoorTie.lean); close each card by the builder's one call (the guide's Derived/Test/ToyasCard.lean, 'card_holds'). Laid BY PROGRAM, IN A SANDBOX (cutbox-door.mjs). By AI agents, Wed Nov 11 2026. No macro, syntax, notation, axiom, sorry.
-/
import Derived.Test.YbulkckrcDoorRows
import GoSem.ClaimSeven
namespace Go.Proofs.YbulkckrcDoor
namespace Rows

/-- THE TIED CARD OF 'fanout.LawS4331AThenHeld'. -/
def lawS4331AThenHeldCard : Claim7 := { stood := { row := lawS4331AThenHeldRow, standIns := [], harness := (true, "42b74ff660e44e59a6a39e67435834e390aaaeeaefc709fe44a4eaa6b54529a8"), looks := false }, kinds := [], alts := [], laidByText := true, laidKinds := [.sentinel], laidTests := true, laidLooks := .later }
def LawS4331AThenHeldCardSaid : Prop := Claim7.holds Ybad.pinned (.plain (OpenSpec.ofChange lawS4331AThenHeldSpec)) lawS4331AThenHeldCard
end Rows
end Go.Proofs.YbulkckrcDoor
