/-
  LawS5578CLeaves: the shelf's contracts for slices.Clone and slices.Compact laid at this program (the table of numbers and one theorem each).
-/
import Derived.Test.YbulkdkmoProg
import Derived.Shelf.SlGeneric
import Derived.Ground.SlgnProg
import Derived.Shelf.SlicesE.Compact
import Derived.Shelf.SlicesE.Clone
namespace Go.Proofs
open Go.Shelf
def Yba.compactL_ren : Go.Shelf.Ren := ⟨fun | 43 => 15 | n => n, fun | 22 => 47 | 23 => 31 | 3 => 3 | 4 => 4 | 0 => 0 | n => n, fun | n => n⟩
theorem Yba.compactL : Go.Proofs.SlLaysE.n43 Yba.prog Yba.compactL_ren := {
  mixed := by kernel_rfl
  f43 := ⟨Yba.f15.name, by decide, Yba.func15.trans (congrArg some (by kernel_rfl))⟩
  t0 := Yba.underlying0
  a0 := Yba.isAgg0
  z0 := Yba.sizeOf0
  v0 := Yba.zeroValue0
  t3 := Yba.underlying3
  a3 := Yba.isAgg3
  z3 := Yba.sizeOf3
  v3 := Yba.zeroValue3
  t4 := Yba.underlying4
  a4 := Yba.isAgg4
  z4 := Yba.sizeOf4
  v4 := Yba.zeroValue4
  t22 := Yba.underlying47
  a22 := Yba.isAgg47
  z22 := Yba.sizeOf47
  v22 := Yba.zeroValue47
  a23 := Yba.isAgg31
  z23 := Yba.sizeOf31 }
def Yba.cloneL_ren : Go.Shelf.Ren := ⟨fun | 41 => 13 | n => n, fun | 22 => 47 | 23 => 31 | 4 => 4 | n => n, fun | n => n⟩
theorem Yba.cloneL : Go.Proofs.SlLaysE0.n41 Yba.prog Yba.cloneL_ren := {
  mixed := by kernel_rfl
  f41 := ⟨Yba.f13.name, by decide, Yba.func13.trans (congrArg some (by kernel_rfl))⟩
  t4 := Yba.underlying4
  a4 := Yba.isAgg4
  z4 := Yba.sizeOf4
  v4 := Yba.zeroValue4
  t22 := Yba.underlying47
  a22 := Yba.isAgg47
  z22 := Yba.sizeOf47
  v22 := Yba.zeroValue47 }
end Go.Proofs
