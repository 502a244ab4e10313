/-
  No cell of these rows narrows 'for every input' (looked for: loops, veiled, ifaces, maps, wideKeys, modest, calm, conditions, laid).
  DERIVED. THE GIVEN ROWS OF THIS SEAT. 2 by the template 'for every input the law returns true; each argument reads behind the call as it read before'; 0 by the template 'total and deterministic' (their statements: YbulkvtwTotals.lean).
  GIVEN WITH THE SEED: the statements are not yours to turn. If you find one false, say at which input.
  Laid BY PROGRAM, IN A SANDBOX (cutbox-rows.mjs): the forced cells as the released guide's own fill.sh prints them over the translation d356c8051862f948… (all of the seat's roots in one cut). By AI agents, Wed Nov 11 2026. No macro, syntax, notation, axiom, sorry.
-/
import Derived.Test.YbulkvtwChecked
import GoSem.Claim
import GoSem.ClaimJoined
import GoSem.ClaimMapViews
import Derived.JoinedTies
import Derived.KernelRfl
namespace Go.Proofs.Ybulkvtw
/- THE CELL 'sum', in the pinned program and in every row, IS THE sha256 OF THE DUMP (.gsa) THAT YbulkvtwProg.lean LOADS. Nothing in Lean hashes anything: it is a label: what it is worth is what the hold of that sum in a sandbox is worth. -/
noncomputable def Yba.pinned : Pinned := { name := "ybulkvtw", sum := "d356c8051862f948049009f22f34e638cdd11b92f2f5b682537d42be1fbde0db", checked := Yba.checked }
namespace Rows
def none {H : Type} : Left H := { results := [], args := [] }

/-- 'prefixwise.LawS1101CExact': WHATEVER THE INPUT: true; the input reads as it did. -/
def lawS1101CExactSpec : ChangeSpec := { name := "lawS1101CExact", fn := fun _ => fun
  | [d] => { results := [.lit (.bool true)], args := [d] }
  | _ => none }
def lawS1101CExactRow : OpenClaim := { program := "ybulkvtw", sum := "d356c8051862f948049009f22f34e638cdd11b92f2f5b682537d42be1fbde0db", func := "example.com/prefixwise/prefixwise.LawS1101CExact", spec := "lawS1101CExact", apart := false }
def LawS1101CExactSaid : Prop := lawS1101CExactRow.holds Yba.pinned (OpenSpec.ofChange lawS1101CExactSpec)

/-- ITS FALSE NEIGHBOUR: 'it returns false'. Refute it at one input. -/
def lawS1101CExactWrong : ChangeSpec := { name := "lawS1101CExact", fn := fun _ => fun
  | [d] => { results := [.lit (.bool false)], args := [d] }
  | _ => none }
def LawS1101CExactWrongFalsely : Prop := lawS1101CExactRow.holds Yba.pinned (OpenSpec.ofChange lawS1101CExactWrong)

/-- 'prefixwise.LawS1101CPositive': WHATEVER THE INPUT: true; the input reads as it did. -/
def lawS1101CPositiveSpec : ChangeSpec := { name := "lawS1101CPositive", fn := fun _ => fun
  | [d] => { results := [.lit (.bool true)], args := [d] }
  | _ => none }
def lawS1101CPositiveRow : OpenClaim := { program := "ybulkvtw", sum := "d356c8051862f948049009f22f34e638cdd11b92f2f5b682537d42be1fbde0db", func := "example.com/prefixwise/prefixwise.LawS1101CPositive", spec := "lawS1101CPositive", apart := false }
def LawS1101CPositiveSaid : Prop := lawS1101CPositiveRow.holds Yba.pinned (OpenSpec.ofChange lawS1101CPositiveSpec)

/-- ITS FALSE NEIGHBOUR: 'it returns false'. Refute it at one input. -/
def lawS1101CPositiveWrong : ChangeSpec := { name := "lawS1101CPositive", fn := fun _ => fun
  | [d] => { results := [.lit (.bool false)], args := [d] }
  | _ => none }
def LawS1101CPositiveWrongFalsely : Prop := lawS1101CPositiveRow.holds Yba.pinned (OpenSpec.ofChange lawS1101CPositiveWrong)

end Rows
end Go.Proofs.Ybulkvtw
