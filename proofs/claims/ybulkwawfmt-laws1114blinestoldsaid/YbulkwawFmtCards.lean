/-
  DERIVED. GIVEN WITH THE SEED: THE CARDS: each row of YbulkwawFmtRows.lean that lists a variable, with what it lists TIED to the program's text (the seventh form; the later family's looks); each row that meets fmt, with fmt's text TOLD by the authors' own Lean function (tested against real Go, not proved from fmt's source: count such statements apart). THE CARD IS WHAT COUNTS. Prove the row's statement (the work); the ties are given (YbulkwawFmtTie.lean); close each card by the builder's one call (the guide's Derived/Test/ToyasCard.lean, 'card_holds'). Laid BY PROGRAM, IN A SANDBOX (cutbox-door.mjs). By AI agents, Wed Nov 11 2026. No macro, syntax, notation, axiom, sorry.
-/
import Derived.Test.YbulkwawFmtRows
import GoSem.ClaimSeven
namespace Go.Proofs.YbulkwawFmt
namespace Rows

/-- THE TOLD CARD OF 'promela.LawS1114BLines'. -/
def lawS1114BLinesCard : Claim7 := { stood := { row := lawS1114BLinesRow, standIns := [], harness := (true, "1eb0cdc2de2a43d4cdcd85b12e2bdc85202be44e00a20d647f359b746b53e4ca"), looks := true }, told := true, goes := false }
def LawS1114BLinesToldSaid : Prop := Claim7.holds Ybaf.pinned (.plain (OpenSpec.ofChange lawS1114BLinesSpec)) lawS1114BLinesCard
/-- ITS FALSE NEIGHBOUR. Refute it at one input. -/
def LawS1114BLinesToldWrongFalsely : Prop := Claim7.holds Ybaf.pinned (.plain (OpenSpec.ofChange lawS1114BLinesWrong)) lawS1114BLinesCard
end Rows
end Go.Proofs.YbulkwawFmt
