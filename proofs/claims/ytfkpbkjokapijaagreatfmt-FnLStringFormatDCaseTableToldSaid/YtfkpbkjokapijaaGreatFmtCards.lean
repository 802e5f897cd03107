/-
  DERIVED. GIVEN WITH THE SEED: THE CARDS: each row of YtfkpbkjokapijaaGreatFmtRows.lean that lists a variable, with what it lists TIED to the program's text (the seventh form; the later family's looks); each row that meets fmt, with fmt's text TOLD by the authors' own Lean function (tested against real Go, not proved from fmt's source: count such statements apart). THE CARD IS WHAT COUNTS. Prove the row's statement (the work); the ties are given (YtfkpbkjokapijaaGreatFmtTie.lean); close each card by the builder's one call (the guide's Derived/Test/ToyasCard.lean, 'card_holds'). Laid BY PROGRAM, IN A SANDBOX (cutbox-door.mjs). By AI agents, Wed Nov 11 2026. No macro, syntax, notation, axiom, sorry.
-/
import Derived.Test.YtfkpbkjokapijaaGreatFmtRows
import GoSem.ClaimSeven
namespace Go.Proofs.YtfkpbkjokapijaaGreatFmt
namespace Rows

/-- THE TOLD AND TIED CARD OF 'n005_152.FnLStringFormatDCaseTable'. -/
def fnLStringFormatDCaseTableCard : Claim7 := { stood := { row := fnLStringFormatDCaseTableRow, standIns := [], harness := (true, "840926ba09a9ad934fc62238809a627e8f4254a8b2e6d3083120425865001473"), looks := true }, told := true, laidByText := true, laidKinds := [.data, .data, .widerDeep, .widerDeep, .data, .data, .data, .data, .data, .data, .sentinel, .sentinel, .pinned, .pinned, .pinned], laidTests := true, laidLooks := .later, goes := false }
def FnLStringFormatDCaseTableToldSaid : Prop := Claim7.holds Tryz.pinned (.plain (OpenSpec.ofChange fnLStringFormatDCaseTableSpec)) fnLStringFormatDCaseTableCard
/-- ITS FALSE NEIGHBOUR. Refute it at one input. -/
def FnLStringFormatDCaseTableToldWrongFalsely : Prop := Claim7.holds Tryz.pinned (.plain (OpenSpec.ofChange fnLStringFormatDCaseTableWrong)) fnLStringFormatDCaseTableCard
end Rows
end Go.Proofs.YtfkpbkjokapijaaGreatFmt
