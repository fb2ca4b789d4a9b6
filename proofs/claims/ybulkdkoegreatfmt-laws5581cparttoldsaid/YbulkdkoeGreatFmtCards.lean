/-
  DERIVED. GIVEN WITH THE SEED: THE CARDS: each row of YbulkdkoeGreatFmtRows.lean that lists a variable, with what it lists TIED to the program's text (the seventh form; the later family's looks); each row that meets fmt, with fmt's text TOLD by the authors' own Lean function (tested against real Go, not proved from fmt's source: count such statements apart). THE CARD IS WHAT COUNTS. Prove the row's statement (the work); the ties are given (YbulkdkoeGreatFmtTie.lean); close each card by the builder's one call (the guide's Derived/Test/ToyasCard.lean, 'card_holds'). Laid BY PROGRAM, IN A SANDBOX (cutbox-door.mjs). By AI agents, Wed Nov 11 2026. No macro, syntax, notation, axiom, sorry.
-/
import Derived.Test.YbulkdkoeGreatFmtRows
import GoSem.ClaimSeven
namespace Go.Proofs.YbulkdkoeGreatFmt
namespace Rows

/-- THE TOLD AND TIED CARD OF 'barterswarm.LawS5581CPart'. -/
def lawS5581CPartCard : Claim7 := { stood := { row := lawS5581CPartRow, standIns := [], harness := (true, "777dd55aeacfc891c1abf70a5f8a169e90e424d044ece2c7331d6a0069c55f4c"), looks := false }, told := true, laidByText := true, laidKinds := [.data], laidTests := true, laidLooks := .later, goes := false }
def LawS5581CPartToldSaid : Prop := Claim7.holds Ybaz.pinned (.plain (OpenSpec.ofChange lawS5581CPartSpec)) lawS5581CPartCard
/-- ITS FALSE NEIGHBOUR. Refute it at one input. -/
def LawS5581CPartToldWrongFalsely : Prop := Claim7.holds Ybaz.pinned (.plain (OpenSpec.ofChange lawS5581CPartWrong)) lawS5581CPartCard
end Rows
end Go.Proofs.YbulkdkoeGreatFmt
