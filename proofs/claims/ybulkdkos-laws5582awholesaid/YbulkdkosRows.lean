/-
  No cell of these rows narrows 'for every input' (looked for: loops, veiled, ifaces, maps, wideKeys, modest, calm, conditions, laid).
  DERIVED. THE GIVEN ROWS OF THIS SEAT. 3 by the template 'for every input the law returns true; each argument reads behind the call as it read before'; 0 by the template 'total and deterministic' (their statements: YbulkdkosTotals.lean).
  GIVEN WITH THE SEED: the statements are not yours to turn. If you find one false, say at which input.
  Laid BY PROGRAM, IN A SANDBOX (cutbox-rows.mjs): the forced cells as the released guide's own fill.sh prints them over the translation f3146dddec42178a… (all of the seat's roots in one cut). By AI agents, Wed Nov 11 2026. No macro, syntax, notation, axiom, sorry.
-/
import Derived.Test.YbulkdkosChecked
import GoSem.Claim
import GoSem.ClaimJoined
import GoSem.ClaimMapViews
import Derived.JoinedTies
import Derived.KernelRfl
namespace Go.Proofs.Ybulkdkos
/- THE CELL 'sum', in the pinned program and in every row, IS THE sha256 OF THE DUMP (.gsa) THAT YbulkdkosProg.lean LOADS. Nothing in Lean hashes anything: it is a label: what it is worth is what the hold of that sum in a sandbox is worth. -/
noncomputable def Yba.pinned : Pinned := { name := "ybulkdkos", sum := "f3146dddec42178a20ba62300d9fca91323ae13ea71b257b5df9d16d0edbf899", checked := Yba.checked }
namespace Rows
def none {H : Type} : Left H := { results := [], args := [] }

/-- 'spanfold.LawS5582AWhole': WHATEVER THE INPUT: true; the input reads as it did. -/
def lawS5582AWholeSpec : ChangeSpec := { name := "lawS5582AWhole", fn := fun _ => fun
  | [d1, d2, d3] => { results := [.lit (.bool true)], args := [d1, d2, d3] }
  | _ => none }
def lawS5582AWholeRow : OpenClaim := { program := "ybulkdkos", sum := "f3146dddec42178a20ba62300d9fca91323ae13ea71b257b5df9d16d0edbf899", func := "example.com/spanfold/spanfold.LawS5582AWhole", spec := "lawS5582AWhole", unfollowed := true, recurses := true, apart := false }
def LawS5582AWholeSaid : Prop := lawS5582AWholeRow.holds Yba.pinned (OpenSpec.ofChange lawS5582AWholeSpec)

/-- ITS FALSE NEIGHBOUR: 'it returns false'. Refute it at one input. -/
def lawS5582AWholeWrong : ChangeSpec := { name := "lawS5582AWhole", fn := fun _ => fun
  | [d1, d2, d3] => { results := [.lit (.bool false)], args := [d1, d2, d3] }
  | _ => none }
def LawS5582AWholeWrongFalsely : Prop := lawS5582AWholeRow.holds Yba.pinned (OpenSpec.ofChange lawS5582AWholeWrong)

/-- 'spanfold.LawS5582BWhole': WHATEVER THE INPUT: true; the input reads as it did. -/
def lawS5582BWholeSpec : ChangeSpec := { name := "lawS5582BWhole", fn := fun _ => fun
  | [d1, d2] => { results := [.lit (.bool true)], args := [d1, d2] }
  | _ => none }
def lawS5582BWholeRow : OpenClaim := { program := "ybulkdkos", sum := "f3146dddec42178a20ba62300d9fca91323ae13ea71b257b5df9d16d0edbf899", func := "example.com/spanfold/spanfold.LawS5582BWhole", spec := "lawS5582BWhole", unfollowed := true, recurses := true, apart := false }
def LawS5582BWholeSaid : Prop := lawS5582BWholeRow.holds Yba.pinned (OpenSpec.ofChange lawS5582BWholeSpec)

/-- ITS FALSE NEIGHBOUR: 'it returns false'. Refute it at one input. -/
def lawS5582BWholeWrong : ChangeSpec := { name := "lawS5582BWhole", fn := fun _ => fun
  | [d1, d2] => { results := [.lit (.bool false)], args := [d1, d2] }
  | _ => none }
def LawS5582BWholeWrongFalsely : Prop := lawS5582BWholeRow.holds Yba.pinned (OpenSpec.ofChange lawS5582BWholeWrong)

/-- 'spanfold.LawS5582CWhole': WHATEVER THE INPUT: true; the input reads as it did. -/
def lawS5582CWholeSpec : ChangeSpec := { name := "lawS5582CWhole", fn := fun _ => fun
  | [d1, d2] => { results := [.lit (.bool true)], args := [d1, d2] }
  | _ => none }
def lawS5582CWholeRow : OpenClaim := { program := "ybulkdkos", sum := "f3146dddec42178a20ba62300d9fca91323ae13ea71b257b5df9d16d0edbf899", func := "example.com/spanfold/spanfold.LawS5582CWhole", spec := "lawS5582CWhole", apart := false }
def LawS5582CWholeSaid : Prop := lawS5582CWholeRow.holds Yba.pinned (OpenSpec.ofChange lawS5582CWholeSpec)

/-- ITS FALSE NEIGHBOUR: 'it returns false'. Refute it at one input. -/
def lawS5582CWholeWrong : ChangeSpec := { name := "lawS5582CWhole", fn := fun _ => fun
  | [d1, d2] => { results := [.lit (.bool false)], args := [d1, d2] }
  | _ => none }
def LawS5582CWholeWrongFalsely : Prop := lawS5582CWholeRow.holds Yba.pinned (OpenSpec.ofChange lawS5582CWholeWrong)

end Rows
end Go.Proofs.Ybulkdkos
