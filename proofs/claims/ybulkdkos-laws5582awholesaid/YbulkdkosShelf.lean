/-
  LawS5582AWhole: the shelf's contract for slices.insertionSortCmpFunc laid at this program (the table of numbers and one theorem).
-/
import Derived.Test.YbulkdkosProg
import Derived.Shelf.SlGeneric
import Derived.Shelf.SlSortCmp.KitK
namespace Go.Proofs
open Go.Shelf
def Yba.insL_ren : Go.Shelf.Ren := ⟨fun | 20 => 24 | n => n, fun | 22 => 24 | 24 => 33 | 25 => 71 | 3 => 3 | 4 => 4 | 0 => 0 | n => n, fun | n => n⟩
theorem Yba.insL : Go.Proofs.SlLaysF0.n20 Yba.prog Yba.insL_ren := {
  mixed := by kernel_rfl
  f20 := ⟨Yba.f24.name, by decide, Yba.func24.trans (congrArg some (by kernel_rfl))⟩
  t0 := Yba.underlying0
  a0 := Yba.isAgg0
  z0 := Yba.sizeOf0
  v0 := Yba.zeroValue0
  t3 := Yba.underlying3
  a3 := Yba.isAgg3
  z3 := Yba.sizeOf3
  v3 := Yba.zeroValue3
  t4 := Yba.underlying4
  a4 := Yba.isAgg4
  z4 := Yba.sizeOf4
  v4 := Yba.zeroValue4
  t22 := Yba.underlying24
  a22 := Yba.isAgg24
  z22 := Yba.sizeOf24
  v22 := Yba.zeroValue24
  t25 := Yba.underlying71
  a25 := Yba.isAgg71
  z25 := Yba.sizeOf71
  v25 := Yba.zeroValue71 }
end Go.Proofs
