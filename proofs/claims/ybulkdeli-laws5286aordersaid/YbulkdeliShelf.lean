/-
  DERIVED: THE SHELF's CONTRACTS AT THIS DUMP, IN PLAIN WORDS (tools/lay-plain.mjs out of 'YbulkdeliShelf.lean', which tools/lay-shelf.mjs wrote): THE SAME DECLARATIONS UNDER THE SAME NAMES: 'import', 'namespace', 'open', 'def', 'theorem' AND NOTHING ELSE: no command of the shelf's: FOR A HAND-IN. Each laying: the table of numbers ('.._ren') and one theorem, a field a fact of the dump's own or the kernel's comparison; each contract: ONE APPLICATION.
-/
import Derived.Shelf.SlSortCmp.WholeK
import Derived.Test.YbulkdeliRows
namespace Go.Proofs
open Go.Shelf
def Yba.sortR_ren : Go.Shelf.Ren := ⟨fun | 6 => 13 | 15 => 21 | 14 => 20 | 28 => 33 | 29 => 34 | 20 => 25 | 21 => 26 | 22 => 27 | 23 => 28 | 24 => 29 | 25 => 30 | 26 => 31 | 27 => 32 | 46 => 37 | 47 => 38 | 48 => 39 | 49 => 40 | 50 => 41 | 57 => 42 | n => n, fun | 22 => 23 | 24 => 29 | 25 => 55 | 3 => 3 | 39 => 61 | 0 => 0 | 53 => 74 | 55 => 76 | 4 => 4 | 46 => 67 | 45 => 66 | 50 => 71 | 5 => 5 | 9 => 9 | 66 => 79 | 70 => 83 | 76 => 85 | 77 => 86 | n => n, fun | n => n⟩
set_option maxRecDepth 100000 in
theorem Yba.sortR : Go.Proofs.SlLaysF0.n6 Yba.prog Yba.sortR_ren := {
  mixed := by kernel_rfl
  f6 := ⟨Yba.f13.name, by decide, Yba.func13.trans (congrArg some (by kernel_rfl))⟩
  f14 := ⟨Yba.f20.name, by decide, Yba.func20.trans (congrArg some (by kernel_rfl))⟩
  f15 := Yba.func21.trans (congrArg some (by kernel_rfl))
  f20 := ⟨Yba.f25.name, by decide, Yba.func25.trans (congrArg some (by kernel_rfl))⟩
  f21 := ⟨Yba.f26.name, by decide, Yba.func26.trans (congrArg some (by kernel_rfl))⟩
  f22 := ⟨Yba.f27.name, by decide, Yba.func27.trans (congrArg some (by kernel_rfl))⟩
  f23 := ⟨Yba.f28.name, by decide, Yba.func28.trans (congrArg some (by kernel_rfl))⟩
  f24 := ⟨Yba.f29.name, by decide, Yba.func29.trans (congrArg some (by kernel_rfl))⟩
  f25 := ⟨Yba.f30.name, by decide, Yba.func30.trans (congrArg some (by kernel_rfl))⟩
  f26 := ⟨Yba.f31.name, by decide, Yba.func31.trans (congrArg some (by kernel_rfl))⟩
  f27 := ⟨Yba.f32.name, by decide, Yba.func32.trans (congrArg some (by kernel_rfl))⟩
  f28 := Yba.func33.trans (congrArg some (by kernel_rfl))
  f29 := Yba.func34.trans (congrArg some (by kernel_rfl))
  f46 := ⟨Yba.f37.name, by decide, Yba.func37.trans (congrArg some (by kernel_rfl))⟩
  f47 := Yba.func38.trans (congrArg some (by kernel_rfl))
  f48 := Yba.func39.trans (congrArg some (by kernel_rfl))
  f49 := ⟨Yba.f40.name, by decide, Yba.func40.trans (congrArg some (by kernel_rfl))⟩
  f50 := ⟨Yba.f41.name, by decide, Yba.func41.trans (congrArg some (by kernel_rfl))⟩
  f57 := ⟨Yba.f42.name, by decide, Yba.func42.trans (congrArg some (by kernel_rfl))⟩
  t0 := Yba.underlying0
  a0 := Yba.isAgg0
  z0 := Yba.sizeOf0
  v0 := Yba.zeroValue0
  t3 := Yba.underlying3
  a3 := Yba.isAgg3
  z3 := Yba.sizeOf3
  v3 := Yba.zeroValue3
  t4 := Yba.underlying4
  a4 := Yba.isAgg4
  z4 := Yba.sizeOf4
  v4 := Yba.zeroValue4
  t5 := Yba.underlying5
  a5 := Yba.isAgg5
  z5 := Yba.sizeOf5
  v5 := Yba.zeroValue5
  t9 := Yba.underlying9
  a9 := Yba.isAgg9
  z9 := Yba.sizeOf9
  v9 := Yba.zeroValue9
  t22 := Yba.underlying23
  a22 := Yba.isAgg23
  z22 := Yba.sizeOf23
  v22 := Yba.zeroValue23
  t25 := Yba.underlying55
  a25 := Yba.isAgg55
  z25 := Yba.sizeOf55
  v25 := Yba.zeroValue55
  t39 := Yba.underlying61
  a39 := Yba.isAgg61
  z39 := Yba.sizeOf61
  v39 := Yba.zeroValue61
  t45 := Yba.underlying66
  a45 := Yba.isAgg66
  z45 := Yba.sizeOf66
  v45 := Yba.zeroValue66
  t46 := Yba.underlying67
  a46 := Yba.isAgg67
  z46 := Yba.sizeOf67
  v46 := Yba.zeroValue67
  t50 := Yba.underlying71
  a50 := Yba.isAgg71
  z50 := Yba.sizeOf71
  v50 := Yba.zeroValue71
  t53 := Yba.underlying74
  a53 := Yba.isAgg74
  z53 := Yba.sizeOf74
  v53 := Yba.zeroValue74
  t55 := Yba.underlying76
  a55 := Yba.isAgg76
  z55 := Yba.sizeOf76
  v55 := Yba.zeroValue76
  t66 := Yba.underlying79
  a66 := Yba.isAgg79
  z66 := Yba.sizeOf79
  v66 := Yba.zeroValue79
  t70 := Yba.underlying83
  a70 := Yba.isAgg83
  z70 := Yba.sizeOf83
  v70 := Yba.zeroValue83
  t76 := Yba.underlying85
  a76 := Yba.isAgg85
  z76 := Yba.sizeOf85
  v76 := Yba.zeroValue85
  t77 := Yba.underlying86
  a77 := Yba.isAgg86
  z77 := Yba.sizeOf86
  v77 := Yba.zeroValue86 }
end Go.Proofs
