/-
  No cell of these rows narrows 'for every input' (looked for: loops, veiled, ifaces, maps, wideKeys, modest, calm, conditions, laid).
  DERIVED. THE GIVEN ROWS OF THIS SEAT. 4 by the template 'for every input the law returns true; each argument reads behind the call as it read before'; 0 by the template 'total and deterministic' (their statements: YbulkdkmoTotals.lean).
  GIVEN WITH THE SEED: the statements are not yours to turn. If you find one false, say at which input.
  Laid BY PROGRAM, IN A SANDBOX (cutbox-rows.mjs): the forced cells as the released guide's own fill.sh prints them over the translation 74f36a1d8c7ac8cc… (all of the seat's roots in one cut). By AI agents, Wed Nov 11 2026. No macro, syntax, notation, axiom, sorry.
-/
import Derived.Test.YbulkdkmoChecked
import GoSem.Claim
import GoSem.ClaimJoined
import GoSem.ClaimMapViews
import Derived.JoinedTies
import Derived.KernelRfl
namespace Go.Proofs.Ybulkdkmo
/- THE CELL 'sum', in the pinned program and in every row, IS THE sha256 OF THE DUMP (.gsa) THAT YbulkdkmoProg.lean LOADS. Nothing in Lean hashes anything: it is a label: what it is worth is what the hold of that sum in a sandbox is worth. -/
noncomputable def Yba.pinned : Pinned := { name := "ybulkdkmo", sum := "74f36a1d8c7ac8cc85c2d8e9b9f37cc4b615be68c01d0e98bd080583a4447417", checked := Yba.checked }
namespace Rows
def none {H : Type} : Left H := { results := [], args := [] }

/-- 'joinfold.LawS5578AWhole': WHATEVER THE INPUT: true; the input reads as it did. -/
def lawS5578AWholeSpec : ChangeSpec := { name := "lawS5578AWhole", fn := fun _ => fun
  | [d1, d2] => { results := [.lit (.bool true)], args := [d1, d2] }
  | _ => none }
def lawS5578AWholeRow : OpenClaim := { program := "ybulkdkmo", sum := "74f36a1d8c7ac8cc85c2d8e9b9f37cc4b615be68c01d0e98bd080583a4447417", func := "example.com/joinfold/joinfold.LawS5578AWhole", spec := "lawS5578AWhole", unfollowed := true, recurses := true, apart := false }
def LawS5578AWholeSaid : Prop := lawS5578AWholeRow.holds Yba.pinned (OpenSpec.ofChange lawS5578AWholeSpec)

/-- ITS FALSE NEIGHBOUR: 'it returns false'. Refute it at one input. -/
def lawS5578AWholeWrong : ChangeSpec := { name := "lawS5578AWhole", fn := fun _ => fun
  | [d1, d2] => { results := [.lit (.bool false)], args := [d1, d2] }
  | _ => none }
def LawS5578AWholeWrongFalsely : Prop := lawS5578AWholeRow.holds Yba.pinned (OpenSpec.ofChange lawS5578AWholeWrong)

/-- 'joinfold.LawS5578BWhole': WHATEVER THE INPUT: true; the input reads as it did. -/
def lawS5578BWholeSpec : ChangeSpec := { name := "lawS5578BWhole", fn := fun _ => fun
  | [d1, d2, d3, d4] => { results := [.lit (.bool true)], args := [d1, d2, d3, d4] }
  | _ => none }
def lawS5578BWholeRow : OpenClaim := { program := "ybulkdkmo", sum := "74f36a1d8c7ac8cc85c2d8e9b9f37cc4b615be68c01d0e98bd080583a4447417", func := "example.com/joinfold/joinfold.LawS5578BWhole", spec := "lawS5578BWhole", unfollowed := true, recurses := true, apart := false }
def LawS5578BWholeSaid : Prop := lawS5578BWholeRow.holds Yba.pinned (OpenSpec.ofChange lawS5578BWholeSpec)

/-- ITS FALSE NEIGHBOUR: 'it returns false'. Refute it at one input. -/
def lawS5578BWholeWrong : ChangeSpec := { name := "lawS5578BWhole", fn := fun _ => fun
  | [d1, d2, d3, d4] => { results := [.lit (.bool false)], args := [d1, d2, d3, d4] }
  | _ => none }
def LawS5578BWholeWrongFalsely : Prop := lawS5578BWholeRow.holds Yba.pinned (OpenSpec.ofChange lawS5578BWholeWrong)

/-- 'joinfold.LawS5578CWhole': WHATEVER THE INPUT: true; the input reads as it did. -/
def lawS5578CWholeSpec : ChangeSpec := { name := "lawS5578CWhole", fn := fun _ => fun
  | [d1, d2, d3] => { results := [.lit (.bool true)], args := [d1, d2, d3] }
  | _ => none }
def lawS5578CWholeRow : OpenClaim := { program := "ybulkdkmo", sum := "74f36a1d8c7ac8cc85c2d8e9b9f37cc4b615be68c01d0e98bd080583a4447417", func := "example.com/joinfold/joinfold.LawS5578CWhole", spec := "lawS5578CWhole", apart := false }
def LawS5578CWholeSaid : Prop := lawS5578CWholeRow.holds Yba.pinned (OpenSpec.ofChange lawS5578CWholeSpec)

/-- ITS FALSE NEIGHBOUR: 'it returns false'. Refute it at one input. -/
def lawS5578CWholeWrong : ChangeSpec := { name := "lawS5578CWhole", fn := fun _ => fun
  | [d1, d2, d3] => { results := [.lit (.bool false)], args := [d1, d2, d3] }
  | _ => none }
def LawS5578CWholeWrongFalsely : Prop := lawS5578CWholeRow.holds Yba.pinned (OpenSpec.ofChange lawS5578CWholeWrong)

/-- 'joinfold.LawS5578CLeaves': WHATEVER THE INPUT: true; the input reads as it did. -/
def lawS5578CLeavesSpec : ChangeSpec := { name := "lawS5578CLeaves", fn := fun _ => fun
  | [d] => { results := [.lit (.bool true)], args := [d] }
  | _ => none }
def lawS5578CLeavesRow : OpenClaim := { program := "ybulkdkmo", sum := "74f36a1d8c7ac8cc85c2d8e9b9f37cc4b615be68c01d0e98bd080583a4447417", func := "example.com/joinfold/joinfold.LawS5578CLeaves", spec := "lawS5578CLeaves", recurses := true, apart := false }
def LawS5578CLeavesSaid : Prop := lawS5578CLeavesRow.holds Yba.pinned (OpenSpec.ofChange lawS5578CLeavesSpec)

/-- ITS FALSE NEIGHBOUR: 'it returns false'. Refute it at one input. -/
def lawS5578CLeavesWrong : ChangeSpec := { name := "lawS5578CLeaves", fn := fun _ => fun
  | [d] => { results := [.lit (.bool false)], args := [d] }
  | _ => none }
def LawS5578CLeavesWrongFalsely : Prop := lawS5578CLeavesRow.holds Yba.pinned (OpenSpec.ofChange lawS5578CLeavesWrong)

end Rows
end Go.Proofs.Ybulkdkmo
