/-
  DERIVED: THE SHELF's CONTRACTS AT THIS DUMP, IN PLAIN WORDS (tools/lay-plain.mjs out of 'YbulkbmkoShelf.lean', which tools/lay-shelf.mjs wrote): THE SAME DECLARATIONS UNDER THE SAME NAMES: 'import', 'namespace', 'open', 'def', 'theorem' AND NOTHING ELSE: no command of the shelf's: FOR A HAND-IN. Each laying: the table of numbers ('.._ren') and one theorem, a field a fact of the dump's own or the kernel's comparison; each contract: ONE APPLICATION.
-/
import Derived.Shelf.SlSortCmp.WholeK
import Derived.Ground.SlsfProg
import Derived.Test.YbulkbmkoProg
namespace Go.Proofs
open Go.Shelf
def Yba.sortNd_ren : Go.Shelf.Ren := ⟨fun | 6 => 8 | 15 => 14 | 14 => 13 | 28 => 24 | 29 => 25 | 20 => 16 | 21 => 17 | 22 => 18 | 23 => 19 | 24 => 20 | 25 => 21 | 26 => 22 | 27 => 23 | 46 => 27 | 47 => 28 | 48 => 29 | 49 => 30 | 50 => 31 | 57 => 32 | n => n, fun | 22 => 37 | 24 => 32 | 25 => 83 | 3 => 3 | 39 => 88 | 0 => 0 | 53 => 50 | 55 => 43 | 4 => 4 | 46 => 92 | 45 => 91 | 50 => 96 | 5 => 5 | 9 => 9 | 66 => 100 | 70 => 104 | 76 => 106 | 77 => 107 | n => n, fun | n => n⟩
theorem Yba.sortNd : Go.Proofs.SlLaysF0.n6 Yba.prog Yba.sortNd_ren := {
  mixed := by kernel_rfl
  f6 := ⟨Yba.f8.name, by decide, Yba.func8.trans (congrArg some (by kernel_rfl))⟩
  f14 := ⟨Yba.f13.name, by decide, Yba.func13.trans (congrArg some (by kernel_rfl))⟩
  f15 := Yba.func14.trans (congrArg some (by kernel_rfl))
  f20 := ⟨Yba.f16.name, by decide, Yba.func16.trans (congrArg some (by kernel_rfl))⟩
  f21 := ⟨Yba.f17.name, by decide, Yba.func17.trans (congrArg some (by kernel_rfl))⟩
  f22 := ⟨Yba.f18.name, by decide, Yba.func18.trans (congrArg some (by kernel_rfl))⟩
  f23 := ⟨Yba.f19.name, by decide, Yba.func19.trans (congrArg some (by kernel_rfl))⟩
  f24 := ⟨Yba.f20.name, by decide, Yba.func20.trans (congrArg some (by kernel_rfl))⟩
  f25 := ⟨Yba.f21.name, by decide, Yba.func21.trans (congrArg some (by kernel_rfl))⟩
  f26 := ⟨Yba.f22.name, by decide, Yba.func22.trans (congrArg some (by kernel_rfl))⟩
  f27 := ⟨Yba.f23.name, by decide, Yba.func23.trans (congrArg some (by kernel_rfl))⟩
  f28 := Yba.func24.trans (congrArg some (by kernel_rfl))
  f29 := Yba.func25.trans (congrArg some (by kernel_rfl))
  f46 := ⟨Yba.f27.name, by decide, Yba.func27.trans (congrArg some (by kernel_rfl))⟩
  f47 := Yba.func28.trans (congrArg some (by kernel_rfl))
  f48 := Yba.func29.trans (congrArg some (by kernel_rfl))
  f49 := ⟨Yba.f30.name, by decide, Yba.func30.trans (congrArg some (by kernel_rfl))⟩
  f50 := ⟨Yba.f31.name, by decide, Yba.func31.trans (congrArg some (by kernel_rfl))⟩
  f57 := ⟨Yba.f32.name, by decide, Yba.func32.trans (congrArg some (by kernel_rfl))⟩
  t0 := Yba.underlying0
  a0 := Yba.isAgg0
  z0 := Yba.sizeOf0
  v0 := Yba.zeroValue0
  t3 := Yba.underlying3
  a3 := Yba.isAgg3
  z3 := Yba.sizeOf3
  v3 := Yba.zeroValue3
  t4 := Yba.underlying4
  a4 := Yba.isAgg4
  z4 := Yba.sizeOf4
  v4 := Yba.zeroValue4
  t5 := Yba.underlying5
  a5 := Yba.isAgg5
  z5 := Yba.sizeOf5
  v5 := Yba.zeroValue5
  t9 := Yba.underlying9
  a9 := Yba.isAgg9
  z9 := Yba.sizeOf9
  v9 := Yba.zeroValue9
  t22 := Yba.underlying37
  a22 := Yba.isAgg37
  z22 := Yba.sizeOf37
  v22 := Yba.zeroValue37
  t25 := Yba.underlying83
  a25 := Yba.isAgg83
  z25 := Yba.sizeOf83
  v25 := Yba.zeroValue83
  t39 := Yba.underlying88
  a39 := Yba.isAgg88
  z39 := Yba.sizeOf88
  v39 := Yba.zeroValue88
  t45 := Yba.underlying91
  a45 := Yba.isAgg91
  z45 := Yba.sizeOf91
  v45 := Yba.zeroValue91
  t46 := Yba.underlying92
  a46 := Yba.isAgg92
  z46 := Yba.sizeOf92
  v46 := Yba.zeroValue92
  t50 := Yba.underlying96
  a50 := Yba.isAgg96
  z50 := Yba.sizeOf96
  v50 := Yba.zeroValue96
  t53 := Yba.underlying50
  a53 := Yba.isAgg50
  z53 := Yba.sizeOf50
  v53 := Yba.zeroValue50
  t55 := Yba.underlying43
  a55 := Yba.isAgg43
  z55 := Yba.sizeOf43
  v55 := Yba.zeroValue43
  t66 := Yba.underlying100
  a66 := Yba.isAgg100
  z66 := Yba.sizeOf100
  v66 := Yba.zeroValue100
  t70 := Yba.underlying104
  a70 := Yba.isAgg104
  z70 := Yba.sizeOf104
  v70 := Yba.zeroValue104
  t76 := Yba.underlying106
  a76 := Yba.isAgg106
  z76 := Yba.sizeOf106
  v76 := Yba.zeroValue106
  t77 := Yba.underlying107
  a77 := Yba.isAgg107
  z77 := Yba.sizeOf107
  v77 := Yba.zeroValue107 }
end Go.Proofs
