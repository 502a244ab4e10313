/-
  No cell of these rows narrows 'for every input' (looked for: loops, veiled, ifaces, maps, wideKeys, modest, calm, conditions, laid).
  DERIVED. THE GIVEN ROWS OF THIS SEAT. 3 by the template 'for every input the law returns true; each argument reads behind the call as it read before'; 0 by the template 'total and deterministic' (their statements: YbulkvrsTotals.lean).
  GIVEN WITH THE SEED: the statements are not yours to turn. If you find one false, say at which input.
  Laid BY PROGRAM, IN A SANDBOX (cutbox-rows.mjs): the forced cells as the released guide's own fill.sh prints them over the translation 80eb00cf61a546c1… (all of the seat's roots in one cut). By AI agents, Wed Nov 11 2026. No macro, syntax, notation, axiom, sorry.
-/
import Derived.Test.YbulkvrsChecked
import GoSem.Claim
import GoSem.ClaimJoined
import GoSem.ClaimMapViews
import Derived.JoinedTies
import Derived.KernelRfl
namespace Go.Proofs.Ybulkvrs
/- THE CELL 'sum', in the pinned program and in every row, IS THE sha256 OF THE DUMP (.gsa) THAT YbulkvrsProg.lean LOADS. Nothing in Lean hashes anything: it is a label: what it is worth is what the hold of that sum in a sandbox is worth. -/
noncomputable def Yba.pinned : Pinned := { name := "ybulkvrs", sum := "80eb00cf61a546c1a5192d01865e5682284d20059d954ed24a469a9377bce703", checked := Yba.checked }
namespace Rows
def none {H : Type} : Left H := { results := [], args := [] }

/-- 'ringleader.LawS1097APlace': WHATEVER THE INPUT: true; the input reads as it did. -/
def lawS1097APlaceSpec : ChangeSpec := { name := "lawS1097APlace", fn := fun _ => fun
  | [d1, d2] => { results := [.lit (.bool true)], args := [d1, d2] }
  | _ => none }
def lawS1097APlaceRow : OpenClaim := { program := "ybulkvrs", sum := "80eb00cf61a546c1a5192d01865e5682284d20059d954ed24a469a9377bce703", func := "example.com/ringleader/ringleader.LawS1097APlace", spec := "lawS1097APlace", unfollowed := true, recurses := true, apart := false }
def LawS1097APlaceSaid : Prop := lawS1097APlaceRow.holds Yba.pinned (OpenSpec.ofChange lawS1097APlaceSpec)

/-- ITS FALSE NEIGHBOUR: 'it returns false'. Refute it at one input. -/
def lawS1097APlaceWrong : ChangeSpec := { name := "lawS1097APlace", fn := fun _ => fun
  | [d1, d2] => { results := [.lit (.bool false)], args := [d1, d2] }
  | _ => none }
def LawS1097APlaceWrongFalsely : Prop := lawS1097APlaceRow.holds Yba.pinned (OpenSpec.ofChange lawS1097APlaceWrong)

/-- 'ringleader.LawS1097BTake': WHATEVER THE INPUT: true; the input reads as it did. -/
def lawS1097BTakeSpec : ChangeSpec := { name := "lawS1097BTake", fn := fun _ => fun
  | [d1, d2, d3, d4] => { results := [.lit (.bool true)], args := [d1, d2, d3, d4] }
  | _ => none }
def lawS1097BTakeRow : OpenClaim := { program := "ybulkvrs", sum := "80eb00cf61a546c1a5192d01865e5682284d20059d954ed24a469a9377bce703", func := "example.com/ringleader/ringleader.LawS1097BTake", spec := "lawS1097BTake", apart := false }
def LawS1097BTakeSaid : Prop := lawS1097BTakeRow.holds Yba.pinned (OpenSpec.ofChange lawS1097BTakeSpec)

/-- ITS FALSE NEIGHBOUR: 'it returns false'. Refute it at one input. -/
def lawS1097BTakeWrong : ChangeSpec := { name := "lawS1097BTake", fn := fun _ => fun
  | [d1, d2, d3, d4] => { results := [.lit (.bool false)], args := [d1, d2, d3, d4] }
  | _ => none }
def LawS1097BTakeWrongFalsely : Prop := lawS1097BTakeRow.holds Yba.pinned (OpenSpec.ofChange lawS1097BTakeWrong)

/-- 'ringleader.LawS1097BPutBack': WHATEVER THE INPUT: true; the input reads as it did. -/
def lawS1097BPutBackSpec : ChangeSpec := { name := "lawS1097BPutBack", fn := fun _ => fun
  | [d1, d2, d3, d4, d5] => { results := [.lit (.bool true)], args := [d1, d2, d3, d4, d5] }
  | _ => none }
def lawS1097BPutBackRow : OpenClaim := { program := "ybulkvrs", sum := "80eb00cf61a546c1a5192d01865e5682284d20059d954ed24a469a9377bce703", func := "example.com/ringleader/ringleader.LawS1097BPutBack", spec := "lawS1097BPutBack", apart := false }
def LawS1097BPutBackSaid : Prop := lawS1097BPutBackRow.holds Yba.pinned (OpenSpec.ofChange lawS1097BPutBackSpec)

/-- ITS FALSE NEIGHBOUR: 'it returns false'. Refute it at one input. -/
def lawS1097BPutBackWrong : ChangeSpec := { name := "lawS1097BPutBack", fn := fun _ => fun
  | [d1, d2, d3, d4, d5] => { results := [.lit (.bool false)], args := [d1, d2, d3, d4, d5] }
  | _ => none }
def LawS1097BPutBackWrongFalsely : Prop := lawS1097BPutBackRow.holds Yba.pinned (OpenSpec.ofChange lawS1097BPutBackWrong)

end Rows
end Go.Proofs.Ybulkvrs
