/-
  No cell of these rows narrows 'for every input' (looked for: loops, veiled, ifaces, maps, wideKeys, modest, calm, conditions, laid).
  DERIVED. THE GIVEN ROWS OF THIS SEAT. 5 by the template 'for every input the law returns true; each argument reads behind the call as it read before'; 0 by the template 'total and deterministic' (their statements: YbulkagbmTotals.lean).
  GIVEN WITH THE SEED: the statements are not yours to turn. If you find one false, say at which input.
  Laid BY PROGRAM, IN A SANDBOX (cutbox-rows.mjs): the forced cells as the released guide's own fill.sh prints them over the translation 149ab3c9fe7b335f… (all of the seat's roots in one cut). By AI agents, Wed Nov 11 2026. No macro, syntax, notation, axiom, sorry.
-/
import Derived.Test.YbulkagbmChecked
import GoSem.Claim
import GoSem.ClaimJoined
import GoSem.ClaimMapViews
import Derived.JoinedTies
import Derived.KernelRfl
namespace Go.Proofs.Ybulkagbm
/- THE CELL 'sum', in the pinned program and in every row, IS THE sha256 OF THE DUMP (.gsa) THAT YbulkagbmProg.lean LOADS. Nothing in Lean hashes anything: it is a label: what it is worth is what the hold of that sum in a sandbox is worth. -/
noncomputable def Yba.pinned : Pinned := { name := "ybulkagbm", sum := "149ab3c9fe7b335fa3f74513d9502d6028c262795a582c11a0d13809e7b5a259", checked := Yba.checked }
namespace Rows
def none {H : Type} : Left H := { results := [], args := [] }

/-- 'tidecache.LawS1598AHalves': WHATEVER THE INPUT: true; the input reads as it did. -/
def lawS1598AHalvesSpec : ChangeSpec := { name := "lawS1598AHalves", fn := fun _ => fun
  | [d1, d2, d3] => { results := [.lit (.bool true)], args := [d1, d2, d3] }
  | _ => none }
def lawS1598AHalvesRow : OpenClaim := { program := "ybulkagbm", sum := "149ab3c9fe7b335fa3f74513d9502d6028c262795a582c11a0d13809e7b5a259", func := "example.com/tidecache/tidecache.LawS1598AHalves", spec := "lawS1598AHalves", apart := false }
def LawS1598AHalvesSaid : Prop := lawS1598AHalvesRow.holds Yba.pinned (OpenSpec.ofChange lawS1598AHalvesSpec)

/-- ITS FALSE NEIGHBOUR: 'it returns false'. Refute it at one input. -/
def lawS1598AHalvesWrong : ChangeSpec := { name := "lawS1598AHalves", fn := fun _ => fun
  | [d1, d2, d3] => { results := [.lit (.bool false)], args := [d1, d2, d3] }
  | _ => none }
def LawS1598AHalvesWrongFalsely : Prop := lawS1598AHalvesRow.holds Yba.pinned (OpenSpec.ofChange lawS1598AHalvesWrong)

/-- 'tidecache.LawS1598AFourToZero': WHATEVER THE INPUT: true; the input reads as it did. -/
def lawS1598AFourToZeroSpec : ChangeSpec := { name := "lawS1598AFourToZero", fn := fun _ => fun
  | [d] => { results := [.lit (.bool true)], args := [d] }
  | _ => none }
def lawS1598AFourToZeroRow : OpenClaim := { program := "ybulkagbm", sum := "149ab3c9fe7b335fa3f74513d9502d6028c262795a582c11a0d13809e7b5a259", func := "example.com/tidecache/tidecache.LawS1598AFourToZero", spec := "lawS1598AFourToZero", apart := false }
def LawS1598AFourToZeroSaid : Prop := lawS1598AFourToZeroRow.holds Yba.pinned (OpenSpec.ofChange lawS1598AFourToZeroSpec)

/-- ITS FALSE NEIGHBOUR: 'it returns false'. Refute it at one input. -/
def lawS1598AFourToZeroWrong : ChangeSpec := { name := "lawS1598AFourToZero", fn := fun _ => fun
  | [d] => { results := [.lit (.bool false)], args := [d] }
  | _ => none }
def LawS1598AFourToZeroWrongFalsely : Prop := lawS1598AFourToZeroRow.holds Yba.pinned (OpenSpec.ofChange lawS1598AFourToZeroWrong)

/-- 'tidecache.LawS1598BTrim': WHATEVER THE INPUT: true; the input reads as it did. -/
def lawS1598BTrimSpec : ChangeSpec := { name := "lawS1598BTrim", fn := fun _ => fun
  | [d1, d2, d3, d4, d5, d6] => { results := [.lit (.bool true)], args := [d1, d2, d3, d4, d5, d6] }
  | _ => none }
def lawS1598BTrimRow : OpenClaim := { program := "ybulkagbm", sum := "149ab3c9fe7b335fa3f74513d9502d6028c262795a582c11a0d13809e7b5a259", func := "example.com/tidecache/tidecache.LawS1598BTrim", spec := "lawS1598BTrim", apart := false }
def LawS1598BTrimSaid : Prop := lawS1598BTrimRow.holds Yba.pinned (OpenSpec.ofChange lawS1598BTrimSpec)

/-- ITS FALSE NEIGHBOUR: 'it returns false'. Refute it at one input. -/
def lawS1598BTrimWrong : ChangeSpec := { name := "lawS1598BTrim", fn := fun _ => fun
  | [d1, d2, d3, d4, d5, d6] => { results := [.lit (.bool false)], args := [d1, d2, d3, d4, d5, d6] }
  | _ => none }
def LawS1598BTrimWrongFalsely : Prop := lawS1598BTrimRow.holds Yba.pinned (OpenSpec.ofChange lawS1598BTrimWrong)

/-- 'tidecache.LawS1598CGrow': WHATEVER THE INPUT: true; the input reads as it did. -/
def lawS1598CGrowSpec : ChangeSpec := { name := "lawS1598CGrow", fn := fun _ => fun
  | [d1, d2, d3, d4] => { results := [.lit (.bool true)], args := [d1, d2, d3, d4] }
  | _ => none }
def lawS1598CGrowRow : OpenClaim := { program := "ybulkagbm", sum := "149ab3c9fe7b335fa3f74513d9502d6028c262795a582c11a0d13809e7b5a259", func := "example.com/tidecache/tidecache.LawS1598CGrow", spec := "lawS1598CGrow", apart := false }
def LawS1598CGrowSaid : Prop := lawS1598CGrowRow.holds Yba.pinned (OpenSpec.ofChange lawS1598CGrowSpec)

/-- ITS FALSE NEIGHBOUR: 'it returns false'. Refute it at one input. -/
def lawS1598CGrowWrong : ChangeSpec := { name := "lawS1598CGrow", fn := fun _ => fun
  | [d1, d2, d3, d4] => { results := [.lit (.bool false)], args := [d1, d2, d3, d4] }
  | _ => none }
def LawS1598CGrowWrongFalsely : Prop := lawS1598CGrowRow.holds Yba.pinned (OpenSpec.ofChange lawS1598CGrowWrong)

/-- 'tidecache.LawS1598CTwice': WHATEVER THE INPUT: true; the input reads as it did. -/
def lawS1598CTwiceSpec : ChangeSpec := { name := "lawS1598CTwice", fn := fun _ => fun
  | [d1, d2, d3] => { results := [.lit (.bool true)], args := [d1, d2, d3] }
  | _ => none }
def lawS1598CTwiceRow : OpenClaim := { program := "ybulkagbm", sum := "149ab3c9fe7b335fa3f74513d9502d6028c262795a582c11a0d13809e7b5a259", func := "example.com/tidecache/tidecache.LawS1598CTwice", spec := "lawS1598CTwice", apart := false }
def LawS1598CTwiceSaid : Prop := lawS1598CTwiceRow.holds Yba.pinned (OpenSpec.ofChange lawS1598CTwiceSpec)

/-- ITS FALSE NEIGHBOUR: 'it returns false'. Refute it at one input. -/
def lawS1598CTwiceWrong : ChangeSpec := { name := "lawS1598CTwice", fn := fun _ => fun
  | [d1, d2, d3] => { results := [.lit (.bool false)], args := [d1, d2, d3] }
  | _ => none }
def LawS1598CTwiceWrongFalsely : Prop := lawS1598CTwiceRow.holds Yba.pinned (OpenSpec.ofChange lawS1598CTwiceWrong)

end Rows
end Go.Proofs.Ybulkagbm
