/-
  DERIVED: THE SHELF's CONTRACTS AT THIS DUMP, IN PLAIN WORDS (tools/lay-plain.mjs out of 'YbaSort.lean', which tools/lay-shelf.mjs wrote): THE SAME DECLARATIONS UNDER THE SAME NAMES: 'import', 'namespace', 'open', 'def', 'theorem' AND NOTHING ELSE: no command of the shelf's: FOR A HAND-IN. Each laying: the table of numbers ('.._ren') and one theorem, a field a fact of the dump's own or the kernel's comparison; each contract: ONE APPLICATION.
-/
import Derived.Ground.SlsfProg
import Derived.Ground.SlgcProg
import Derived.Shelf.SlSortCmp.WholeK
import Derived.Shelf.SlicesG.Cmp
import Derived.Shelf.SlGeneric
import Derived.Test.YbulksgiProg
namespace Go.Proofs
open Go.Shelf
def Yba.sortFp_ren : Go.Shelf.Ren := ⟨fun | 6 => 7 | 15 => 11 | 14 => 10 | 28 => 21 | 29 => 22 | 20 => 13 | 21 => 14 | 22 => 15 | 23 => 16 | 24 => 17 | 25 => 18 | 26 => 19 | 27 => 20 | 46 => 23 | 47 => 24 | 48 => 25 | 49 => 26 | 50 => 27 | 57 => 28 | n => n, fun | 22 => 83 | 24 => 95 | 25 => 110 | 3 => 3 | 39 => 67 | 0 => 0 | 53 => 54 | 55 => 66 | 4 => 4 | 46 => 116 | 45 => 115 | 50 => 120 | 5 => 5 | 9 => 9 | 66 => 124 | 70 => 128 | 76 => 130 | 77 => 131 | n => n, fun | n => n⟩
theorem Yba.sortFp : Go.Proofs.SlLaysF0.n6 Yba.prog Yba.sortFp_ren := {
  mixed := by kernel_rfl
  f6 := ⟨Yba.f7.name, by decide, Yba.func7.trans (congrArg some (by kernel_rfl))⟩
  f14 := ⟨Yba.f10.name, by decide, Yba.func10.trans (congrArg some (by kernel_rfl))⟩
  f15 := Yba.func11.trans (congrArg some (by kernel_rfl))
  f20 := ⟨Yba.f13.name, by decide, Yba.func13.trans (congrArg some (by kernel_rfl))⟩
  f21 := ⟨Yba.f14.name, by decide, Yba.func14.trans (congrArg some (by kernel_rfl))⟩
  f22 := ⟨Yba.f15.name, by decide, Yba.func15.trans (congrArg some (by kernel_rfl))⟩
  f23 := ⟨Yba.f16.name, by decide, Yba.func16.trans (congrArg some (by kernel_rfl))⟩
  f24 := ⟨Yba.f17.name, by decide, Yba.func17.trans (congrArg some (by kernel_rfl))⟩
  f25 := ⟨Yba.f18.name, by decide, Yba.func18.trans (congrArg some (by kernel_rfl))⟩
  f26 := ⟨Yba.f19.name, by decide, Yba.func19.trans (congrArg some (by kernel_rfl))⟩
  f27 := ⟨Yba.f20.name, by decide, Yba.func20.trans (congrArg some (by kernel_rfl))⟩
  f28 := Yba.func21.trans (congrArg some (by kernel_rfl))
  f29 := Yba.func22.trans (congrArg some (by kernel_rfl))
  f46 := ⟨Yba.f23.name, by decide, Yba.func23.trans (congrArg some (by kernel_rfl))⟩
  f47 := Yba.func24.trans (congrArg some (by kernel_rfl))
  f48 := Yba.func25.trans (congrArg some (by kernel_rfl))
  f49 := ⟨Yba.f26.name, by decide, Yba.func26.trans (congrArg some (by kernel_rfl))⟩
  f50 := ⟨Yba.f27.name, by decide, Yba.func27.trans (congrArg some (by kernel_rfl))⟩
  f57 := ⟨Yba.f28.name, by decide, Yba.func28.trans (congrArg some (by kernel_rfl))⟩
  t0 := Yba.underlying0
  a0 := Yba.isAgg0
  z0 := Yba.sizeOf0
  v0 := Yba.zeroValue0
  t3 := Yba.underlying3
  a3 := Yba.isAgg3
  z3 := Yba.sizeOf3
  v3 := Yba.zeroValue3
  t4 := Yba.underlying4
  a4 := Yba.isAgg4
  z4 := Yba.sizeOf4
  v4 := Yba.zeroValue4
  t5 := Yba.underlying5
  a5 := Yba.isAgg5
  z5 := Yba.sizeOf5
  v5 := Yba.zeroValue5
  t9 := Yba.underlying9
  a9 := Yba.isAgg9
  z9 := Yba.sizeOf9
  v9 := Yba.zeroValue9
  t22 := Yba.underlying83
  a22 := Yba.isAgg83
  z22 := Yba.sizeOf83
  v22 := Yba.zeroValue83
  t25 := Yba.underlying110
  a25 := Yba.isAgg110
  z25 := Yba.sizeOf110
  v25 := Yba.zeroValue110
  t39 := Yba.underlying67
  a39 := Yba.isAgg67
  z39 := Yba.sizeOf67
  v39 := Yba.zeroValue67
  t45 := Yba.underlying115
  a45 := Yba.isAgg115
  z45 := Yba.sizeOf115
  v45 := Yba.zeroValue115
  t46 := Yba.underlying116
  a46 := Yba.isAgg116
  z46 := Yba.sizeOf116
  v46 := Yba.zeroValue116
  t50 := Yba.underlying120
  a50 := Yba.isAgg120
  z50 := Yba.sizeOf120
  v50 := Yba.zeroValue120
  t53 := Yba.underlying54
  a53 := Yba.isAgg54
  z53 := Yba.sizeOf54
  v53 := Yba.zeroValue54
  t55 := Yba.underlying66
  a55 := Yba.isAgg66
  z55 := Yba.sizeOf66
  v55 := Yba.zeroValue66
  t66 := Yba.underlying124
  a66 := Yba.isAgg124
  z66 := Yba.sizeOf124
  v66 := Yba.zeroValue124
  t70 := Yba.underlying128
  a70 := Yba.isAgg128
  z70 := Yba.sizeOf128
  v70 := Yba.zeroValue128
  t76 := Yba.underlying130
  a76 := Yba.isAgg130
  z76 := Yba.sizeOf130
  v76 := Yba.zeroValue130
  t77 := Yba.underlying131
  a77 := Yba.isAgg131
  z77 := Yba.sizeOf131
  v77 := Yba.zeroValue131 }
def Yba.cmpInt_ren : Go.Shelf.Ren := ⟨fun | 5 => 9 | 7 => 12 | n => n, fun | 22 => 3 | 3 => 3 | 4 => 4 | n => n, fun | n => n⟩
theorem Yba.cmpInt : Go.Proofs.SlLaysC2.n5 Yba.prog Yba.cmpInt_ren := {
  mixed := by kernel_rfl
  f5 := ⟨Yba.f9.name, by decide, Yba.func9.trans (congrArg some (by kernel_rfl))⟩
  f7 := ⟨Yba.f12.name, by decide, Yba.func12.trans (congrArg some (by kernel_rfl))⟩
  t3 := Yba.underlying3
  a3 := Yba.isAgg3
  z3 := Yba.sizeOf3
  v3 := Yba.zeroValue3
  t4 := Yba.underlying4
  a4 := Yba.isAgg4
  z4 := Yba.sizeOf4
  v4 := Yba.zeroValue4
  t22 := Yba.underlying3
  a22 := Yba.isAgg3
  z22 := Yba.sizeOf3
  v22 := Yba.zeroValue3 }
end Go.Proofs
