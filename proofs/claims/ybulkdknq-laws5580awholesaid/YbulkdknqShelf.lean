/-
  DERIVED: THE SHELF's CONTRACTS AT THIS DUMP, IN PLAIN WORDS (tools/lay-plain.mjs out of 'YbulkdknqShelf.lean', which tools/lay-shelf.mjs wrote): THE SAME DECLARATIONS UNDER THE SAME NAMES: 'import', 'namespace', 'open', 'def', 'theorem' AND NOTHING ELSE: no command of the shelf's: FOR A HAND-IN. Each laying: the table of numbers ('.._ren') and one theorem, a field a fact of the dump's own or the kernel's comparison; each contract: ONE APPLICATION.
-/
import Derived.Test.YbulkdknqProg
import Derived.Shelf.SlGeneric
import Derived.Ground.SlgmProg
import Derived.Ground.SlgnProg
import Derived.Shelf.SortM.Plain
import Derived.Shelf.SortM.SortNone
import Derived.Shelf.SlicesE.Compact
namespace Go.Proofs
open Go.Shelf
def Yba.sortL_ren : Go.Shelf.Ren := ⟨fun | 5 => 17 | 8 => 27 | 7 => 26 | 19 => 39 | 20 => 40 | 10 => 30 | 11 => 31 | 12 => 32 | 13 => 33 | 14 => 34 | 15 => 35 | 16 => 36 | 17 => 37 | 18 => 38 | 30 => 42 | 31 => 43 | 32 => 44 | 33 => 45 | 34 => 46 | 35 => 20 | 40 => 48 | n => n, fun | 23 => 29 | 25 => 3 | 3 => 3 | 32 => 109 | 22 => 24 | 0 => 0 | 44 => 122 | 46 => 124 | 4 => 4 | 36 => 115 | 35 => 114 | 41 => 103 | 5 => 5 | 9 => 9 | 53 => 125 | 57 => 129 | 63 => 131 | 64 => 132 | n => n, fun | n => n⟩
theorem Yba.sortL : Go.Proofs.SlLaysM.n5 Yba.prog Yba.sortL_ren := {
  mixed := by kernel_rfl
  f5 := ⟨Yba.f17.name, by decide, Yba.func17.trans (congrArg some (by kernel_rfl))⟩
  f7 := ⟨Yba.f26.name, by decide, Yba.func26.trans (congrArg some (by kernel_rfl))⟩
  f8 := Yba.func27.trans (congrArg some (by kernel_rfl))
  f10 := ⟨Yba.f30.name, by decide, Yba.func30.trans (congrArg some (by kernel_rfl))⟩
  f11 := ⟨Yba.f31.name, by decide, Yba.func31.trans (congrArg some (by kernel_rfl))⟩
  f12 := ⟨Yba.f32.name, by decide, Yba.func32.trans (congrArg some (by kernel_rfl))⟩
  f13 := ⟨Yba.f33.name, by decide, Yba.func33.trans (congrArg some (by kernel_rfl))⟩
  f14 := ⟨Yba.f34.name, by decide, Yba.func34.trans (congrArg some (by kernel_rfl))⟩
  f15 := ⟨Yba.f35.name, by decide, Yba.func35.trans (congrArg some (by kernel_rfl))⟩
  f16 := ⟨Yba.f36.name, by decide, Yba.func36.trans (congrArg some (by kernel_rfl))⟩
  f17 := ⟨Yba.f37.name, by decide, Yba.func37.trans (congrArg some (by kernel_rfl))⟩
  f18 := ⟨Yba.f38.name, by decide, Yba.func38.trans (congrArg some (by kernel_rfl))⟩
  f19 := Yba.func39.trans (congrArg some (by kernel_rfl))
  f20 := Yba.func40.trans (congrArg some (by kernel_rfl))
  f30 := ⟨Yba.f42.name, by decide, Yba.func42.trans (congrArg some (by kernel_rfl))⟩
  f31 := Yba.func43.trans (congrArg some (by kernel_rfl))
  f32 := Yba.func44.trans (congrArg some (by kernel_rfl))
  f33 := ⟨Yba.f45.name, by decide, Yba.func45.trans (congrArg some (by kernel_rfl))⟩
  f34 := ⟨Yba.f46.name, by decide, Yba.func46.trans (congrArg some (by kernel_rfl))⟩
  f35 := ⟨Yba.f20.name, by decide, Yba.func20.trans (congrArg some (by kernel_rfl))⟩
  f40 := ⟨Yba.f48.name, by decide, Yba.func48.trans (congrArg some (by kernel_rfl))⟩
  t0 := Yba.underlying0
  a0 := Yba.isAgg0
  z0 := Yba.sizeOf0
  v0 := Yba.zeroValue0
  t3 := Yba.underlying3
  a3 := Yba.isAgg3
  z3 := Yba.sizeOf3
  v3 := Yba.zeroValue3
  t4 := Yba.underlying4
  a4 := Yba.isAgg4
  z4 := Yba.sizeOf4
  v4 := Yba.zeroValue4
  t5 := Yba.underlying5
  a5 := Yba.isAgg5
  z5 := Yba.sizeOf5
  v5 := Yba.zeroValue5
  t9 := Yba.underlying9
  a9 := Yba.isAgg9
  z9 := Yba.sizeOf9
  v9 := Yba.zeroValue9
  t22 := Yba.underlying24
  a22 := Yba.isAgg24
  z22 := Yba.sizeOf24
  v22 := Yba.zeroValue24
  t23 := Yba.underlying29
  a23 := Yba.isAgg29
  z23 := Yba.sizeOf29
  v23 := Yba.zeroValue29
  t25 := Yba.underlying3
  a25 := Yba.isAgg3
  z25 := Yba.sizeOf3
  v25 := Yba.zeroValue3
  t32 := Yba.underlying109
  a32 := Yba.isAgg109
  z32 := Yba.sizeOf109
  v32 := Yba.zeroValue109
  t35 := Yba.underlying114
  a35 := Yba.isAgg114
  z35 := Yba.sizeOf114
  v35 := Yba.zeroValue114
  t36 := Yba.underlying115
  a36 := Yba.isAgg115
  z36 := Yba.sizeOf115
  v36 := Yba.zeroValue115
  t41 := Yba.underlying103
  a41 := Yba.isAgg103
  z41 := Yba.sizeOf103
  v41 := Yba.zeroValue103
  t44 := Yba.underlying122
  a44 := Yba.isAgg122
  z44 := Yba.sizeOf122
  v44 := Yba.zeroValue122
  t46 := Yba.underlying124
  a46 := Yba.isAgg124
  z46 := Yba.sizeOf124
  v46 := Yba.zeroValue124
  t53 := Yba.underlying125
  a53 := Yba.isAgg125
  z53 := Yba.sizeOf125
  v53 := Yba.zeroValue125
  t57 := Yba.underlying129
  a57 := Yba.isAgg129
  z57 := Yba.sizeOf129
  v57 := Yba.zeroValue129
  t63 := Yba.underlying131
  a63 := Yba.isAgg131
  z63 := Yba.sizeOf131
  v63 := Yba.zeroValue131
  t64 := Yba.underlying132
  a64 := Yba.isAgg132
  z64 := Yba.sizeOf132
  v64 := Yba.zeroValue132 }
def Yba.compactL_ren : Go.Shelf.Ren := ⟨fun | 43 => 18 | n => n, fun | 22 => 29 | 23 => 3 | 3 => 3 | 4 => 4 | 0 => 0 | n => n, fun | n => n⟩
theorem Yba.compactL : Go.Proofs.SlLaysE.n43 Yba.prog Yba.compactL_ren := {
  mixed := by kernel_rfl
  f43 := ⟨Yba.f18.name, by decide, Yba.func18.trans (congrArg some (by kernel_rfl))⟩
  t0 := Yba.underlying0
  a0 := Yba.isAgg0
  z0 := Yba.sizeOf0
  v0 := Yba.zeroValue0
  t3 := Yba.underlying3
  a3 := Yba.isAgg3
  z3 := Yba.sizeOf3
  v3 := Yba.zeroValue3
  t4 := Yba.underlying4
  a4 := Yba.isAgg4
  z4 := Yba.sizeOf4
  v4 := Yba.zeroValue4
  t22 := Yba.underlying29
  a22 := Yba.isAgg29
  z22 := Yba.sizeOf29
  v22 := Yba.zeroValue29
  a23 := Yba.isAgg3
  z23 := Yba.sizeOf3 }
end Go.Proofs
