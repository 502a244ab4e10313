/-
  DERIVED. GIVEN WITH THE SEED: THE CARDS: each row of YbulkvsuFmtRows.lean that lists a variable, with what it lists TIED to the program's text (the seventh form; the later family's looks); each row that meets fmt, with fmt's text TOLD by the authors' own Lean function (tested against real Go, not proved from fmt's source: count such statements apart). THE CARD IS WHAT COUNTS. Prove the row's statement (the work); the ties are given (YbulkvsuFmtTie.lean); close each card by the builder's one call (the guide's Derived/Test/ToyasCard.lean, 'card_holds'). Laid BY PROGRAM, IN A SANDBOX (cutbox-door.mjs). By AI agents, Wed Nov 11 2026. No macro, syntax, notation, axiom, sorry.
-/
import Derived.Test.YbulkvsuFmtRows
import GoSem.ClaimSeven
namespace Go.Proofs.YbulkvsuFmt
namespace Rows

/-- THE TOLD CARD OF 'tls13.LawS1099AEncodes'. -/
def lawS1099AEncodesCard : Claim7 := { stood := { row := lawS1099AEncodesRow, standIns := [], harness := (true, "f466a3e98947c237b50fbe48f9fa301817286e6cee5fa50e13902ae5d482bb9d"), looks := false }, told := true, goes := false }
def LawS1099AEncodesToldSaid : Prop := Claim7.holds Ybaf.pinned (.plain (OpenSpec.ofChange lawS1099AEncodesSpec)) lawS1099AEncodesCard
/-- ITS FALSE NEIGHBOUR. Refute it at one input. -/
def LawS1099AEncodesToldWrongFalsely : Prop := Claim7.holds Ybaf.pinned (.plain (OpenSpec.ofChange lawS1099AEncodesWrong)) lawS1099AEncodesCard
end Rows
end Go.Proofs.YbulkvsuFmt
