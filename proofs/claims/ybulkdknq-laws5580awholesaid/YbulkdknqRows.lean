/-
  No cell of these rows narrows 'for every input' (looked for: loops, veiled, ifaces, maps, wideKeys, modest, calm, conditions, laid).
  DERIVED. THE GIVEN ROWS OF THIS SEAT. 2 by the template 'for every input the law returns true; each argument reads behind the call as it read before'; 0 by the template 'total and deterministic' (their statements: YbulkdknqTotals.lean).
  GIVEN WITH THE SEED: the statements are not yours to turn. If you find one false, say at which input.
  Laid BY PROGRAM, IN A SANDBOX (cutbox-rows.mjs): the forced cells as the released guide's own fill.sh prints them over the translation 910835cea3da4299… (all of the seat's roots in one cut). By AI agents, Wed Nov 11 2026. No macro, syntax, notation, axiom, sorry.
-/
import Derived.Test.YbulkdknqChecked
import GoSem.Claim
import GoSem.ClaimJoined
import GoSem.ClaimMapViews
import Derived.JoinedTies
import Derived.KernelRfl
namespace Go.Proofs.Ybulkdknq
/- THE CELL 'sum', in the pinned program and in every row, IS THE sha256 OF THE DUMP (.gsa) THAT YbulkdknqProg.lean LOADS. Nothing in Lean hashes anything: it is a label: what it is worth is what the hold of that sum in a sandbox is worth. -/
noncomputable def Yba.pinned : Pinned := { name := "ybulkdknq", sum := "910835cea3da429984f0c52e3b8cc39652a288b1ef20060796888bac9ad3f61e", checked := Yba.checked }
namespace Rows
def none {H : Type} : Left H := { results := [], args := [] }

/-- 'classes.LawS5580AWhole': WHATEVER THE INPUT: true; the input reads as it did. -/
def lawS5580AWholeSpec : ChangeSpec := { name := "lawS5580AWhole", fn := fun _ => fun
  | [d1, d2, d3, d4, d5] => { results := [.lit (.bool true)], args := [d1, d2, d3, d4, d5] }
  | _ => none }
def lawS5580AWholeRow : OpenClaim := { program := "ybulkdknq", sum := "910835cea3da429984f0c52e3b8cc39652a288b1ef20060796888bac9ad3f61e", func := "example.com/serialis/serialis/classes.LawS5580AWhole", spec := "lawS5580AWhole", recurses := true, plainKeys := false, apart := false }
def LawS5580AWholeSaid : Prop := lawS5580AWholeRow.holds Yba.pinned (OpenSpec.ofChange lawS5580AWholeSpec)

/-- ITS FALSE NEIGHBOUR: 'it returns false'. Refute it at one input. -/
def lawS5580AWholeWrong : ChangeSpec := { name := "lawS5580AWhole", fn := fun _ => fun
  | [d1, d2, d3, d4, d5] => { results := [.lit (.bool false)], args := [d1, d2, d3, d4, d5] }
  | _ => none }
def LawS5580AWholeWrongFalsely : Prop := lawS5580AWholeRow.holds Yba.pinned (OpenSpec.ofChange lawS5580AWholeWrong)

/-- 'scheduler.LawS5580CWhole': WHATEVER THE INPUT: true; the input reads as it did. -/
def lawS5580CWholeSpec : ChangeSpec := { name := "lawS5580CWhole", fn := fun _ => fun
  | [d1, d2, d3, d4, d5, d6, d7] => { results := [.lit (.bool true)], args := [d1, d2, d3, d4, d5, d6, d7] }
  | _ => none }
def lawS5580CWholeRow : OpenClaim := { program := "ybulkdknq", sum := "910835cea3da429984f0c52e3b8cc39652a288b1ef20060796888bac9ad3f61e", func := "example.com/serialis/serialis/scheduler.LawS5580CWhole", spec := "lawS5580CWhole", unfollowed := true, recurses := true, plainKeys := false, apart := false }
def LawS5580CWholeSaid : Prop := lawS5580CWholeRow.holds Yba.pinned (OpenSpec.ofChange lawS5580CWholeSpec)

/-- ITS FALSE NEIGHBOUR: 'it returns false'. Refute it at one input. -/
def lawS5580CWholeWrong : ChangeSpec := { name := "lawS5580CWhole", fn := fun _ => fun
  | [d1, d2, d3, d4, d5, d6, d7] => { results := [.lit (.bool false)], args := [d1, d2, d3, d4, d5, d6, d7] }
  | _ => none }
def LawS5580CWholeWrongFalsely : Prop := lawS5580CWholeRow.holds Yba.pinned (OpenSpec.ofChange lawS5580CWholeWrong)

end Rows
end Go.Proofs.Ybulkdknq
