/-
  No cell of these rows narrows 'for every input' (looked for: loops, veiled, ifaces, maps, wideKeys, modest, calm, conditions, laid).
  DERIVED. THE GIVEN ROWS OF THIS SEAT. 1 by the template 'for every input the law returns true; each argument reads behind the call as it read before'; 0 by the template 'total and deterministic' (their statements: YbulkwawFmtTotals.lean).
  GIVEN WITH THE SEED: the statements are not yours to turn. If you find one false, say at which input.
  Laid BY PROGRAM, IN A SANDBOX (cutbox-rows.mjs): the forced cells as the released guide's own fill.sh prints them over the translation f25858b6f9b0c453… (all of the seat's roots in one cut). By AI agents, Wed Nov 11 2026. No macro, syntax, notation, axiom, sorry.
-/
import Derived.Test.YbulkwawFmtChecked
import GoSem.Claim
import GoSem.ClaimJoined
import GoSem.ClaimMapViews
import Derived.JoinedTies
import Derived.KernelRfl
namespace Go.Proofs.YbulkwawFmt
/- THE CELL 'sum', in the pinned program and in every row, IS THE sha256 OF THE DUMP (.gsa) THAT YbulkwawFmtProg.lean LOADS. Nothing in Lean hashes anything: it is a label: what it is worth is what the hold of that sum in a sandbox is worth. -/
noncomputable def Ybaf.pinned : Pinned := { name := "ybulkwawfmt", sum := "f25858b6f9b0c4530a986aad6400cb25b1a6c8b9bc543cc80d2c56c03f3832b9", checked := Ybaf.checked }
namespace Rows
def none {H : Type} : Left H := { results := [], args := [] }

/-- 'promela.LawS1114BLines': WHATEVER THE INPUT: true; the input reads as it did. -/
def lawS1114BLinesSpec : ChangeSpec := { name := "lawS1114BLines", fn := fun _ => fun
  | [d] => { results := [.lit (.bool true)], args := [d] }
  | _ => none }
def lawS1114BLinesRow : OpenClaim := { program := "ybulkwawfmt", sum := "f25858b6f9b0c4530a986aad6400cb25b1a6c8b9bc543cc80d2c56c03f3832b9", func := "example.com/chanprove/chanprove/internal/promela.LawS1114BLines", spec := "lawS1114BLines", stops := ["fmt.Sprintf, its operands' methods called", "fmt.errorf"], inPlace := ["fmt.Sprintf", "internal/abi.NoEscape", "internal/bytealg.MakeNoZero", "fmt.errorf"], unfollowed := true, recurses := true, apart := false }
/-- NO THEOREM (fmt's text is open here; it may be false): for the released tool's asking of the row's closed facts alone. THE STATEMENT IS 'LawS1114BLinesToldSaid' (YbulkwawFmtCards.lean). -/
def LawS1114BLinesFormAsk : Prop := lawS1114BLinesRow.holds Ybaf.pinned (OpenSpec.ofChange lawS1114BLinesSpec)

/-- ITS FALSE NEIGHBOUR: 'it returns false'. Refute it at one input. -/
def lawS1114BLinesWrong : ChangeSpec := { name := "lawS1114BLines", fn := fun _ => fun
  | [d] => { results := [.lit (.bool false)], args := [d] }
  | _ => none }
def LawS1114BLinesWrongFormAsk : Prop := lawS1114BLinesRow.holds Ybaf.pinned (OpenSpec.ofChange lawS1114BLinesWrong)

end Rows
end Go.Proofs.YbulkwawFmt
