/-
  DERIVED. GIVEN WITH THE SEED: THE CARDS: each row of YbulkckqaDoorRows.lean that lists a variable, with what it lists TIED to the program's text (the seventh form; the later family's looks); each row that meets fmt, with fmt's text TOLD by the authors' own Lean function (tested against real Go, not proved from fmt's source: count such statements apart). THE CARD IS WHAT COUNTS. Prove the row's statement (the work); the ties are given (YbulkckqaDoorTie.lean); close each card by the builder's one call (the guide's Derived/Test/ToyasCard.lean, 'card_holds'). Laid BY PROGRAM, IN A SANDBOX (cutbox-door.mjs). By AI agents, Wed Nov 11 2026. No macro, syntax, notation, axiom, sorry.
-/
import Derived.Test.YbulkckqaDoorRows
import GoSem.ClaimSeven
namespace Go.Proofs.YbulkckqaDoor
namespace Rows

/-- THE TIED CARD OF 'jsonread.LawS4329AChecked'. -/
def lawS4329ACheckedCard : Claim7 := { stood := { row := lawS4329ACheckedRow, standIns := [], harness := (true, "b3e780121cffe1aaaeda4eb9022db8f845f500049eafc50ecc252a7536744a45"), looks := true }, kinds := [], alts := [], laidByText := true, laidKinds := [.sentinel, .sentinel], laidTests := true, laidLooks := .later }
def LawS4329ACheckedCardSaid : Prop := Claim7.holds Ybad.pinned (.plain (OpenSpec.ofChange lawS4329ACheckedSpec)) lawS4329ACheckedCard

/-- THE TIED CARD OF 'jsonread.LawS4329BModel'. -/
def lawS4329BModelCard : Claim7 := { stood := { row := lawS4329BModelRow, standIns := [], harness := (true, "b3e780121cffe1aaaeda4eb9022db8f845f500049eafc50ecc252a7536744a45"), looks := true }, kinds := [], alts := [], laidByText := true, laidKinds := [.sentinel], laidTests := true, laidLooks := .later }
def LawS4329BModelCardSaid : Prop := Claim7.holds Ybad.pinned (.plain (OpenSpec.ofChange lawS4329BModelSpec)) lawS4329BModelCard

/-- THE TIED CARD OF 'jsonread.LawS4329BSpacey'. -/
def lawS4329BSpaceyCard : Claim7 := { stood := { row := lawS4329BSpaceyRow, standIns := [], harness := (true, "b3e780121cffe1aaaeda4eb9022db8f845f500049eafc50ecc252a7536744a45"), looks := true }, kinds := [], alts := [], laidByText := true, laidKinds := [.sentinel], laidTests := true, laidLooks := .later }
def LawS4329BSpaceyCardSaid : Prop := Claim7.holds Ybad.pinned (.plain (OpenSpec.ofChange lawS4329BSpaceySpec)) lawS4329BSpaceyCard

/-- THE TIED CARD OF 'decimal.LawS4329CPlain'. -/
def lawS4329CPlainCard : Claim7 := { stood := { row := lawS4329CPlainRow, standIns := [], harness := (true, "b3e780121cffe1aaaeda4eb9022db8f845f500049eafc50ecc252a7536744a45"), looks := true }, kinds := [], alts := [], laidByText := true, laidKinds := [.data, .sentinel, .pinned], laidTests := true, laidLooks := .later }
def LawS4329CPlainCardSaid : Prop := Claim7.holds Ybad.pinned (.plain (OpenSpec.ofChange lawS4329CPlainSpec)) lawS4329CPlainCard

/-- THE TIED CARD OF 'decimal.LawS4329CExp'. -/
def lawS4329CExpCard : Claim7 := { stood := { row := lawS4329CExpRow, standIns := [], harness := (true, "b3e780121cffe1aaaeda4eb9022db8f845f500049eafc50ecc252a7536744a45"), looks := true }, kinds := [], alts := [], laidByText := true, laidKinds := [.data, .sentinel, .pinned], laidTests := true, laidLooks := .later }
def LawS4329CExpCardSaid : Prop := Claim7.holds Ybad.pinned (.plain (OpenSpec.ofChange lawS4329CExpSpec)) lawS4329CExpCard

/-- THE TIED CARD OF 'decimal.LawS4329CSyntax'. -/
def lawS4329CSyntaxCard : Claim7 := { stood := { row := lawS4329CSyntaxRow, standIns := [], harness := (true, "b3e780121cffe1aaaeda4eb9022db8f845f500049eafc50ecc252a7536744a45"), looks := true }, kinds := [], alts := [], laidByText := true, laidKinds := [.data, .sentinel, .pinned], laidTests := true, laidLooks := .later }
def LawS4329CSyntaxCardSaid : Prop := Claim7.holds Ybad.pinned (.plain (OpenSpec.ofChange lawS4329CSyntaxSpec)) lawS4329CSyntaxCard
end Rows
end Go.Proofs.YbulkckqaDoor
