/-
  NARROWER THAN 'FOR EVERY INPUT', by the rows' own cells (each row's printed sentence says how): LawS4329AChecked: ifaces, laid · LawS4329BModel: ifaces, laid · LawS4329BSpacey: ifaces, laid · LawS4329CPlain: ifaces, laid · LawS4329CExp: ifaces, laid · LawS4329CSyntax: ifaces, laid.
  DERIVED. THE GIVEN ROWS OF THIS SEAT. 6 by the template 'for every input the law returns true; each argument reads behind the call as it read before'; 0 by the template 'total and deterministic' (their statements: YbulkckqaDoorTotals.lean).
  GIVEN WITH THE SEED: the statements are not yours to turn. If you find one false, say at which input.
  Laid BY PROGRAM, IN A SANDBOX (cutbox-rows.mjs): the forced cells as the released guide's own fill.sh prints them over the translation 03ddc102557e5ea5… (all of the seat's roots in one cut). By AI agents, Wed Nov 11 2026. No macro, syntax, notation, axiom, sorry.
-/
import Derived.Test.YbulkckqaDoorChecked
import GoSem.PinnedTables
import GoSem.Claim
import GoSem.ClaimJoined
import GoSem.ClaimMapViews
import Derived.JoinedTies
import Derived.KernelRfl
namespace Go.Proofs.YbulkckqaDoor
/- THE CELL 'sum', in the pinned program and in every row, IS THE sha256 OF THE DUMP (.gsa) THAT YbulkckqaDoorProg.lean LOADS. Nothing in Lean hashes anything: it is a label: what it is worth is what the hold of that sum in a sandbox is worth. -/
noncomputable def Ybad.pinned : Pinned := { name := "ybulkckqadoor", sum := "03ddc102557e5ea5a144dffd32e94cc18a7d0bb1540e9275041bb45d1446ce6e", checked := Ybad.checked }
namespace Rows
def none {H : Type} : Left H := { results := [], args := [] }

/- WHAT THE LISTED PACKAGE-LEVEL VARIABLES READ AS WHEN THE CALL BEGINS. Each datum BY PROGRAM (the guide's laid-datum.mjs) off the statement by which the dump's own 'gosem.cut.vars' lays the variable. In a bare row this is a premise. The card (YbulkckqaDoorCards.lean) ties it to the program's text. -/
def laid_example_com_cycleport_cycleport_internal_jsonread_errSyntax {H : Type} : DataW H := .iface "*errors.errorString" (.ptr (.agg [.lit (.string [110, 111, 116, 32, 119, 101, 108, 108, 45, 102, 111, 114, 109, 101, 100, 32, 74, 83, 79, 78])]))
def laid_example_com_cycleport_cycleport_internal_jsonread_ErrLoneSurrogate {H : Type} : DataW H := .iface "*errors.errorString" (.ptr (.agg [.lit (.string [97, 32, 115, 116, 114, 105, 110, 103, 32, 101, 115, 99, 97, 112, 101, 115, 32, 104, 97, 108, 102, 32, 111, 102, 32, 97, 32, 115, 117, 114, 114, 111, 103, 97, 116, 101, 32, 112, 97, 105, 114, 32, 97, 108, 111, 110, 101])]))
def laid_unicode_utf8_acceptRanges {H : Type} : DataW H := .agg [.agg [.lit (.int .u8 128), .lit (.int .u8 191)], .agg [.lit (.int .u8 160), .lit (.int .u8 191)], .agg [.lit (.int .u8 128), .lit (.int .u8 159)], .agg [.lit (.int .u8 144), .lit (.int .u8 191)], .agg [.lit (.int .u8 128), .lit (.int .u8 143)], .agg [.lit (.int .u8 0), .lit (.int .u8 0)], .agg [.lit (.int .u8 0), .lit (.int .u8 0)], .agg [.lit (.int .u8 0), .lit (.int .u8 0)], .agg [.lit (.int .u8 0), .lit (.int .u8 0)], .agg [.lit (.int .u8 0), .lit (.int .u8 0)], .agg [.lit (.int .u8 0), .lit (.int .u8 0)], .agg [.lit (.int .u8 0), .lit (.int .u8 0)], .agg [.lit (.int .u8 0), .lit (.int .u8 0)], .agg [.lit (.int .u8 0), .lit (.int .u8 0)], .agg [.lit (.int .u8 0), .lit (.int .u8 0)], .agg [.lit (.int .u8 0), .lit (.int .u8 0)]]
def laid_example_com_cycleport_cycleport_internal_decimal_ErrSyntax {H : Type} : DataW H := .iface "*errors.errorString" (.ptr (.agg [.lit (.string [110, 111, 116, 32, 97, 32, 74, 83, 79, 78, 32, 110, 117, 109, 98, 101, 114])]))
/-- One of Go's own tables, pinned by name: the form's constant. -/
def laid_unicode_utf8_first : DataW Unit := Go.Pinned.utf8First

/-- 'jsonread.LawS4329AChecked': WHATEVER THE INPUT: true; the input reads as it did. -/
def lawS4329ACheckedSpec : ChangeSpec := { name := "lawS4329AChecked", vars := ["example.com/cycleport/cycleport/internal/jsonread.errSyntax", "example.com/cycleport/cycleport/internal/jsonread.ErrLoneSurrogate"], fn := fun _ => fun
  | [d1, d2, d3, d4, d5, g1, g2] => { results := [.lit (.bool true)], args := [d1, d2, d3, d4, d5], vars := [g1, g2] }
  | _ => none }
def lawS4329ACheckedRow : OpenClaim := { program := "ybulkckqadoor", sum := "03ddc102557e5ea5a144dffd32e94cc18a7d0bb1540e9275041bb45d1446ce6e", func := "example.com/cycleport/cycleport/internal/jsonread.LawS4329AChecked", spec := "lawS4329AChecked", named := ["example.com/cycleport/cycleport/internal/jsonread.errSyntax", "example.com/cycleport/cycleport/internal/jsonread.ErrLoneSurrogate"], ifaces := true, apart := false, laid := [("example.com/cycleport/cycleport/internal/jsonread.errSyntax", laid_example_com_cycleport_cycleport_internal_jsonread_errSyntax), ("example.com/cycleport/cycleport/internal/jsonread.ErrLoneSurrogate", laid_example_com_cycleport_cycleport_internal_jsonread_ErrLoneSurrogate)] }
def LawS4329ACheckedSaid : Prop := lawS4329ACheckedRow.holds Ybad.pinned (OpenSpec.ofChange lawS4329ACheckedSpec)

/-- ITS FALSE NEIGHBOUR: 'it returns false'. Refute it at one input. -/
def lawS4329ACheckedWrong : ChangeSpec := { name := "lawS4329AChecked", vars := ["example.com/cycleport/cycleport/internal/jsonread.errSyntax", "example.com/cycleport/cycleport/internal/jsonread.ErrLoneSurrogate"], fn := fun _ => fun
  | [d1, d2, d3, d4, d5, g1, g2] => { results := [.lit (.bool false)], args := [d1, d2, d3, d4, d5], vars := [g1, g2] }
  | _ => none }
def LawS4329ACheckedWrongFalsely : Prop := lawS4329ACheckedRow.holds Ybad.pinned (OpenSpec.ofChange lawS4329ACheckedWrong)

/-- 'jsonread.LawS4329BModel': WHATEVER THE INPUT: true; the input reads as it did. -/
def lawS4329BModelSpec : ChangeSpec := { name := "lawS4329BModel", vars := ["example.com/cycleport/cycleport/internal/jsonread.errSyntax"], fn := fun _ => fun
  | [d1, d2, d3, d4, g1] => { results := [.lit (.bool true)], args := [d1, d2, d3, d4], vars := [g1] }
  | _ => none }
def lawS4329BModelRow : OpenClaim := { program := "ybulkckqadoor", sum := "03ddc102557e5ea5a144dffd32e94cc18a7d0bb1540e9275041bb45d1446ce6e", func := "example.com/cycleport/cycleport/internal/jsonread.LawS4329BModel", spec := "lawS4329BModel", named := ["example.com/cycleport/cycleport/internal/jsonread.errSyntax"], ifaces := true, apart := false, laid := [("example.com/cycleport/cycleport/internal/jsonread.errSyntax", laid_example_com_cycleport_cycleport_internal_jsonread_errSyntax)] }
def LawS4329BModelSaid : Prop := lawS4329BModelRow.holds Ybad.pinned (OpenSpec.ofChange lawS4329BModelSpec)

/-- ITS FALSE NEIGHBOUR: 'it returns false'. Refute it at one input. -/
def lawS4329BModelWrong : ChangeSpec := { name := "lawS4329BModel", vars := ["example.com/cycleport/cycleport/internal/jsonread.errSyntax"], fn := fun _ => fun
  | [d1, d2, d3, d4, g1] => { results := [.lit (.bool false)], args := [d1, d2, d3, d4], vars := [g1] }
  | _ => none }
def LawS4329BModelWrongFalsely : Prop := lawS4329BModelRow.holds Ybad.pinned (OpenSpec.ofChange lawS4329BModelWrong)

/-- 'jsonread.LawS4329BSpacey': WHATEVER THE INPUT: true; the input reads as it did. -/
def lawS4329BSpaceySpec : ChangeSpec := { name := "lawS4329BSpacey", vars := ["example.com/cycleport/cycleport/internal/jsonread.errSyntax"], fn := fun _ => fun
  | [d1, d2, g1] => { results := [.lit (.bool true)], args := [d1, d2], vars := [g1] }
  | _ => none }
def lawS4329BSpaceyRow : OpenClaim := { program := "ybulkckqadoor", sum := "03ddc102557e5ea5a144dffd32e94cc18a7d0bb1540e9275041bb45d1446ce6e", func := "example.com/cycleport/cycleport/internal/jsonread.LawS4329BSpacey", spec := "lawS4329BSpacey", named := ["example.com/cycleport/cycleport/internal/jsonread.errSyntax"], ifaces := true, apart := false, laid := [("example.com/cycleport/cycleport/internal/jsonread.errSyntax", laid_example_com_cycleport_cycleport_internal_jsonread_errSyntax)] }
def LawS4329BSpaceySaid : Prop := lawS4329BSpaceyRow.holds Ybad.pinned (OpenSpec.ofChange lawS4329BSpaceySpec)

/-- ITS FALSE NEIGHBOUR: 'it returns false'. Refute it at one input. -/
def lawS4329BSpaceyWrong : ChangeSpec := { name := "lawS4329BSpacey", vars := ["example.com/cycleport/cycleport/internal/jsonread.errSyntax"], fn := fun _ => fun
  | [d1, d2, g1] => { results := [.lit (.bool false)], args := [d1, d2], vars := [g1] }
  | _ => none }
def LawS4329BSpaceyWrongFalsely : Prop := lawS4329BSpaceyRow.holds Ybad.pinned (OpenSpec.ofChange lawS4329BSpaceyWrong)

/-- 'decimal.LawS4329CPlain': WHATEVER THE INPUT: true; the input reads as it did. -/
def lawS4329CPlainSpec : ChangeSpec := { name := "lawS4329CPlain", vars := ["example.com/cycleport/cycleport/internal/decimal.ErrSyntax"], fn := fun _ => fun
  | [d1, d2, d3, d4, g1] => { results := [.lit (.bool true)], args := [d1, d2, d3, d4], vars := [g1] }
  | _ => none }
def lawS4329CPlainRow : OpenClaim := { program := "ybulkckqadoor", sum := "03ddc102557e5ea5a144dffd32e94cc18a7d0bb1540e9275041bb45d1446ce6e", func := "example.com/cycleport/cycleport/internal/decimal.LawS4329CPlain", spec := "lawS4329CPlain", inPlace := ["internal/bytealg.IndexByteString", "internal/bytealg.IndexString"], unfollowed := true, recurses := true, named := ["example.com/cycleport/cycleport/internal/decimal.ErrSyntax", "unicode/utf8.first", "unicode/utf8.acceptRanges", "internal/bytealg.MaxLen"], ifaces := true, apart := false, laid := [("unicode/utf8.acceptRanges", laid_unicode_utf8_acceptRanges), ("example.com/cycleport/cycleport/internal/decimal.ErrSyntax", laid_example_com_cycleport_cycleport_internal_decimal_ErrSyntax), ("unicode/utf8.first", laid_unicode_utf8_first)] }
def LawS4329CPlainSaid : Prop := lawS4329CPlainRow.holds Ybad.pinned (OpenSpec.ofChange lawS4329CPlainSpec)

/-- ITS FALSE NEIGHBOUR: 'it returns false'. Refute it at one input. -/
def lawS4329CPlainWrong : ChangeSpec := { name := "lawS4329CPlain", vars := ["example.com/cycleport/cycleport/internal/decimal.ErrSyntax"], fn := fun _ => fun
  | [d1, d2, d3, d4, g1] => { results := [.lit (.bool false)], args := [d1, d2, d3, d4], vars := [g1] }
  | _ => none }
def LawS4329CPlainWrongFalsely : Prop := lawS4329CPlainRow.holds Ybad.pinned (OpenSpec.ofChange lawS4329CPlainWrong)

/-- 'decimal.LawS4329CExp': WHATEVER THE INPUT: true; the input reads as it did. -/
def lawS4329CExpSpec : ChangeSpec := { name := "lawS4329CExp", vars := ["example.com/cycleport/cycleport/internal/decimal.ErrSyntax"], fn := fun _ => fun
  | [d1, d2, d3, d4, d5, d6, d7, g1] => { results := [.lit (.bool true)], args := [d1, d2, d3, d4, d5, d6, d7], vars := [g1] }
  | _ => none }
def lawS4329CExpRow : OpenClaim := { program := "ybulkckqadoor", sum := "03ddc102557e5ea5a144dffd32e94cc18a7d0bb1540e9275041bb45d1446ce6e", func := "example.com/cycleport/cycleport/internal/decimal.LawS4329CExp", spec := "lawS4329CExp", inPlace := ["internal/bytealg.IndexByteString", "internal/bytealg.IndexString"], unfollowed := true, recurses := true, named := ["example.com/cycleport/cycleport/internal/decimal.ErrSyntax", "unicode/utf8.first", "unicode/utf8.acceptRanges", "internal/bytealg.MaxLen"], ifaces := true, apart := false, laid := [("unicode/utf8.acceptRanges", laid_unicode_utf8_acceptRanges), ("example.com/cycleport/cycleport/internal/decimal.ErrSyntax", laid_example_com_cycleport_cycleport_internal_decimal_ErrSyntax), ("unicode/utf8.first", laid_unicode_utf8_first)] }
def LawS4329CExpSaid : Prop := lawS4329CExpRow.holds Ybad.pinned (OpenSpec.ofChange lawS4329CExpSpec)

/-- ITS FALSE NEIGHBOUR: 'it returns false'. Refute it at one input. -/
def lawS4329CExpWrong : ChangeSpec := { name := "lawS4329CExp", vars := ["example.com/cycleport/cycleport/internal/decimal.ErrSyntax"], fn := fun _ => fun
  | [d1, d2, d3, d4, d5, d6, d7, g1] => { results := [.lit (.bool false)], args := [d1, d2, d3, d4, d5, d6, d7], vars := [g1] }
  | _ => none }
def LawS4329CExpWrongFalsely : Prop := lawS4329CExpRow.holds Ybad.pinned (OpenSpec.ofChange lawS4329CExpWrong)

/-- 'decimal.LawS4329CSyntax': WHATEVER THE INPUT: true; the input reads as it did. -/
def lawS4329CSyntaxSpec : ChangeSpec := { name := "lawS4329CSyntax", vars := ["example.com/cycleport/cycleport/internal/decimal.ErrSyntax"], fn := fun _ => fun
  | [d, g1] => { results := [.lit (.bool true)], args := [d], vars := [g1] }
  | _ => none }
def lawS4329CSyntaxRow : OpenClaim := { program := "ybulkckqadoor", sum := "03ddc102557e5ea5a144dffd32e94cc18a7d0bb1540e9275041bb45d1446ce6e", func := "example.com/cycleport/cycleport/internal/decimal.LawS4329CSyntax", spec := "lawS4329CSyntax", inPlace := ["internal/bytealg.IndexByteString", "internal/bytealg.IndexString", "internal/reflectlite.TypeOf"], unfollowed := true, recurses := true, named := ["example.com/cycleport/cycleport/internal/decimal.ErrSyntax", "unicode/utf8.first", "unicode/utf8.acceptRanges", "internal/bytealg.MaxLen"], ifaces := true, apart := false, laid := [("unicode/utf8.acceptRanges", laid_unicode_utf8_acceptRanges), ("example.com/cycleport/cycleport/internal/decimal.ErrSyntax", laid_example_com_cycleport_cycleport_internal_decimal_ErrSyntax), ("unicode/utf8.first", laid_unicode_utf8_first)] }
def LawS4329CSyntaxSaid : Prop := lawS4329CSyntaxRow.holds Ybad.pinned (OpenSpec.ofChange lawS4329CSyntaxSpec)

/-- ITS FALSE NEIGHBOUR: 'it returns false'. Refute it at one input. -/
def lawS4329CSyntaxWrong : ChangeSpec := { name := "lawS4329CSyntax", vars := ["example.com/cycleport/cycleport/internal/decimal.ErrSyntax"], fn := fun _ => fun
  | [d, g1] => { results := [.lit (.bool false)], args := [d], vars := [g1] }
  | _ => none }
def LawS4329CSyntaxWrongFalsely : Prop := lawS4329CSyntaxRow.holds Ybad.pinned (OpenSpec.ofChange lawS4329CSyntaxWrong)

end Rows
end Go.Proofs.YbulkckqaDoor
