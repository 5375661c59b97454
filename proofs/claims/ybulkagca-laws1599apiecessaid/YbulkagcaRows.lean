/-
  No cell of these rows narrows 'for every input' (looked for: loops, veiled, ifaces, maps, wideKeys, modest, calm, conditions, laid).
  DERIVED. THE GIVEN ROWS OF THIS SEAT. 2 by the template 'for every input the law returns true; each argument reads behind the call as it read before'; 0 by the template 'total and deterministic' (their statements: YbulkagcaTotals.lean).
  GIVEN WITH THE SEED: the statements are not yours to turn. If you find one false, say at which input.
  Laid BY PROGRAM, IN A SANDBOX (cutbox-rows.mjs): the forced cells as the released guide's own fill.sh prints them over the translation 15a2991d09992a3f… (all of the seat's roots in one cut). By AI agents, Wed Nov 11 2026. No macro, syntax, notation, axiom, sorry.
-/
import Derived.Test.YbulkagcaChecked
import GoSem.Claim
import GoSem.ClaimJoined
import GoSem.ClaimMapViews
import Derived.JoinedTies
import Derived.KernelRfl
namespace Go.Proofs.Ybulkagca
/- THE CELL 'sum', in the pinned program and in every row, IS THE sha256 OF THE DUMP (.gsa) THAT YbulkagcaProg.lean LOADS. Nothing in Lean hashes anything: it is a label: what it is worth is what the hold of that sum in a sandbox is worth. -/
noncomputable def Yba.pinned : Pinned := { name := "ybulkagca", sum := "15a2991d09992a3f1a1b78305c3d980d9357b5c0bd39677d1e49b814c04e5b07", checked := Yba.checked }
namespace Rows
def none {H : Type} : Left H := { results := [], args := [] }

/-- 'jsonappend.LawS1599AModel': WHATEVER THE INPUT: true; the input reads as it did. -/
def lawS1599AModelSpec : ChangeSpec := { name := "lawS1599AModel", fn := fun _ => fun
  | [d1, d2] => { results := [.lit (.bool true)], args := [d1, d2] }
  | _ => none }
def lawS1599AModelRow : OpenClaim := { program := "ybulkagca", sum := "15a2991d09992a3f1a1b78305c3d980d9357b5c0bd39677d1e49b814c04e5b07", func := "example.com/tasklane/tasklane/jsonappend.LawS1599AModel", spec := "lawS1599AModel", apart := false }
def LawS1599AModelSaid : Prop := lawS1599AModelRow.holds Yba.pinned (OpenSpec.ofChange lawS1599AModelSpec)

/-- ITS FALSE NEIGHBOUR: 'it returns false'. Refute it at one input. -/
def lawS1599AModelWrong : ChangeSpec := { name := "lawS1599AModel", fn := fun _ => fun
  | [d1, d2] => { results := [.lit (.bool false)], args := [d1, d2] }
  | _ => none }
def LawS1599AModelWrongFalsely : Prop := lawS1599AModelRow.holds Yba.pinned (OpenSpec.ofChange lawS1599AModelWrong)

/-- 'jsonappend.LawS1599APieces': WHATEVER THE INPUT: true; the input reads as it did. -/
def lawS1599APiecesSpec : ChangeSpec := { name := "lawS1599APieces", fn := fun _ => fun
  | [d1, d2] => { results := [.lit (.bool true)], args := [d1, d2] }
  | _ => none }
def lawS1599APiecesRow : OpenClaim := { program := "ybulkagca", sum := "15a2991d09992a3f1a1b78305c3d980d9357b5c0bd39677d1e49b814c04e5b07", func := "example.com/tasklane/tasklane/jsonappend.LawS1599APieces", spec := "lawS1599APieces", apart := false }
def LawS1599APiecesSaid : Prop := lawS1599APiecesRow.holds Yba.pinned (OpenSpec.ofChange lawS1599APiecesSpec)

/-- ITS FALSE NEIGHBOUR: 'it returns false'. Refute it at one input. -/
def lawS1599APiecesWrong : ChangeSpec := { name := "lawS1599APieces", fn := fun _ => fun
  | [d1, d2] => { results := [.lit (.bool false)], args := [d1, d2] }
  | _ => none }
def LawS1599APiecesWrongFalsely : Prop := lawS1599APiecesRow.holds Yba.pinned (OpenSpec.ofChange lawS1599APiecesWrong)

end Rows
end Go.Proofs.Ybulkagca
