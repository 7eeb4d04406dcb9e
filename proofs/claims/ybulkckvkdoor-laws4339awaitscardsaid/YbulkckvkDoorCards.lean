/-
  DERIVED. GIVEN WITH THE SEED: THE CARDS: each row of YbulkckvkDoorRows.lean that lists a variable, with what it lists TIED to the program's text (the seventh form; the later family's looks); each row that meets fmt, with fmt's text TOLD by the authors' own Lean function (tested against real Go, not proved from fmt's source: count such statements apart). THE CARD IS WHAT COUNTS. Prove the row's statement (the work); the ties are given (YbulkckvkDoorTie.lean); close each card by the builder's one call (the guide's Derived/Test/ToyasCard.lean, 'card_holds'). Laid BY PROGRAM, IN A SANDBOX (cutbox-door.mjs). By AI agents, Wed Nov 11 2026. No macro, syntax, notation, axiom, sorry.
-/
import Derived.Test.YbulkckvkDoorRows
import GoSem.ClaimSeven
namespace Go.Proofs.YbulkckvkDoor
namespace Rows

/-- THE TIED CARD OF 'node.LawS4339AWaits'. -/
def lawS4339AWaitsCard : Claim7 := { stood := { row := lawS4339AWaitsRow, standIns := [], harness := (true, "4f14b498136169b8ba11ab641100e6569d82ebd09a8be70d409807a383a10501"), looks := true }, kinds := [], alts := [], laidByText := true, laidKinds := [.sentinel], laidTests := true, laidLooks := .later }
def LawS4339AWaitsCardSaid : Prop := Claim7.holds Ybad.pinned (.plain (OpenSpec.ofChange lawS4339AWaitsSpec)) lawS4339AWaitsCard
end Rows
end Go.Proofs.YbulkckvkDoor
