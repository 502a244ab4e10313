/-
  No cell of these rows narrows 'for every input' (looked for: loops, veiled, ifaces, maps, wideKeys, modest, calm, conditions, laid).
  DERIVED. THE GIVEN ROWS OF THIS SEAT. 1 by the template 'for every input the law returns true; each argument reads behind the call as it read before'; 0 by the template 'total and deterministic' (their statements: YbulkvsuFmtTotals.lean).
  GIVEN WITH THE SEED: the statements are not yours to turn. If you find one false, say at which input.
  Laid BY PROGRAM, IN A SANDBOX (cutbox-rows.mjs): the forced cells as the released guide's own fill.sh prints them over the translation ddd0d434fffce800… (all of the seat's roots in one cut). By AI agents, Wed Nov 11 2026. No macro, syntax, notation, axiom, sorry.
-/
import Derived.Test.YbulkvsuFmtChecked
import GoSem.Claim
import GoSem.ClaimJoined
import GoSem.ClaimMapViews
import Derived.JoinedTies
import Derived.KernelRfl
namespace Go.Proofs.YbulkvsuFmt
/- THE CELL 'sum', in the pinned program and in every row, IS THE sha256 OF THE DUMP (.gsa) THAT YbulkvsuFmtProg.lean LOADS. Nothing in Lean hashes anything: it is a label: what it is worth is what the hold of that sum in a sandbox is worth. -/
noncomputable def Ybaf.pinned : Pinned := { name := "ybulkvsufmt", sum := "ddd0d434fffce8005a7fcc481698d6f67ffe0058d7b5b1537a38d3afc52ca64f", checked := Ybaf.checked }
namespace Rows
def none {H : Type} : Left H := { results := [], args := [] }

/-- 'tls13.LawS1099AEncodes': WHATEVER THE INPUT: true; the input reads as it did. -/
def lawS1099AEncodesSpec : ChangeSpec := { name := "lawS1099AEncodes", fn := fun _ => fun
  | [d1, d2] => { results := [.lit (.bool true)], args := [d1, d2] }
  | _ => none }
def lawS1099AEncodesRow : OpenClaim := { program := "ybulkvsufmt", sum := "ddd0d434fffce8005a7fcc481698d6f67ffe0058d7b5b1537a38d3afc52ca64f", func := "example.com/undersign/undersign/tls13.LawS1099AEncodes", spec := "lawS1099AEncodes", stops := ["fmt.errorf"], inPlace := ["fmt.errorf"], unfollowed := true, recurses := true, named := ["encoding/binary.BigEndian"], apart := false }
/-- NO THEOREM (fmt's text is open here; it may be false): for the released tool's asking of the row's closed facts alone. THE STATEMENT IS 'LawS1099AEncodesToldSaid' (YbulkvsuFmtCards.lean). -/
def LawS1099AEncodesFormAsk : Prop := lawS1099AEncodesRow.holds Ybaf.pinned (OpenSpec.ofChange lawS1099AEncodesSpec)

/-- ITS FALSE NEIGHBOUR: 'it returns false'. Refute it at one input. -/
def lawS1099AEncodesWrong : ChangeSpec := { name := "lawS1099AEncodes", fn := fun _ => fun
  | [d1, d2] => { results := [.lit (.bool false)], args := [d1, d2] }
  | _ => none }
def LawS1099AEncodesWrongFormAsk : Prop := lawS1099AEncodesRow.holds Ybaf.pinned (OpenSpec.ofChange lawS1099AEncodesWrong)

end Rows
end Go.Proofs.YbulkvsuFmt
