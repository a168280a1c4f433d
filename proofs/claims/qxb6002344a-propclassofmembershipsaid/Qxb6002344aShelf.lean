/-
  DERIVED: THE SHELF's CONTRACTS AT THIS DUMP, IN PLAIN WORDS (tools/lay-plain.mjs out of 'Qxb6002344aShelf0.lean', which tools/lay-shelf.mjs wrote): THE SAME DECLARATIONS UNDER THE SAME NAMES: 'import', 'namespace', 'open', 'def', 'theorem' AND NOTHING ELSE: no command of the shelf's: FOR A HAND-IN. Each laying: the table of numbers ('.._ren') and one theorem, a field a fact of the dump's own or the kernel's comparison; each contract: ONE APPLICATION.
-/
import Derived.Test.Qxb6002344aProg
import Derived.Shelf.SlSortCmp.WholeK
import Derived.Shelf.SlGeneric
import Derived.Ground.SlsfProg
namespace Go.Proofs
open Go.Shelf
def Try.sortL_ren : Go.Shelf.Ren := ⟨fun | 6 => 56 | 15 => 63 | 14 => 62 | 28 => 74 | 29 => 75 | 20 => 66 | 21 => 67 | 22 => 68 | 23 => 69 | 24 => 70 | 25 => 71 | 26 => 72 | 27 => 73 | 46 => 77 | 47 => 78 | 48 => 79 | 49 => 80 | 50 => 81 | 57 => 82 | n => n, fun | 22 => 74 | 24 => 75 | 25 => 77 | 3 => 3 | 39 => 80 | 0 => 0 | 53 => 93 | 55 => 95 | 4 => 4 | 46 => 86 | 45 => 85 | 50 => 90 | 5 => 5 | 9 => 9 | 66 => 98 | 70 => 102 | 76 => 104 | 77 => 105 | n => n, fun | n => n⟩
theorem Try.sortL : Go.Proofs.SlLaysF0.n6 Try.prog Try.sortL_ren := {
  mixed := by kernel_rfl
  f6 := ⟨Try.f56.name, by decide, Try.func56.trans (congrArg some (by kernel_rfl))⟩
  f14 := ⟨Try.f62.name, by decide, Try.func62.trans (congrArg some (by kernel_rfl))⟩
  f15 := Try.func63.trans (congrArg some (by kernel_rfl))
  f20 := ⟨Try.f66.name, by decide, Try.func66.trans (congrArg some (by kernel_rfl))⟩
  f21 := ⟨Try.f67.name, by decide, Try.func67.trans (congrArg some (by kernel_rfl))⟩
  f22 := ⟨Try.f68.name, by decide, Try.func68.trans (congrArg some (by kernel_rfl))⟩
  f23 := ⟨Try.f69.name, by decide, Try.func69.trans (congrArg some (by kernel_rfl))⟩
  f24 := ⟨Try.f70.name, by decide, Try.func70.trans (congrArg some (by kernel_rfl))⟩
  f25 := ⟨Try.f71.name, by decide, Try.func71.trans (congrArg some (by kernel_rfl))⟩
  f26 := ⟨Try.f72.name, by decide, Try.func72.trans (congrArg some (by kernel_rfl))⟩
  f27 := ⟨Try.f73.name, by decide, Try.func73.trans (congrArg some (by kernel_rfl))⟩
  f28 := Try.func74.trans (congrArg some (by kernel_rfl))
  f29 := Try.func75.trans (congrArg some (by kernel_rfl))
  f46 := ⟨Try.f77.name, by decide, Try.func77.trans (congrArg some (by kernel_rfl))⟩
  f47 := Try.func78.trans (congrArg some (by kernel_rfl))
  f48 := Try.func79.trans (congrArg some (by kernel_rfl))
  f49 := ⟨Try.f80.name, by decide, Try.func80.trans (congrArg some (by kernel_rfl))⟩
  f50 := ⟨Try.f81.name, by decide, Try.func81.trans (congrArg some (by kernel_rfl))⟩
  f57 := ⟨Try.f82.name, by decide, Try.func82.trans (congrArg some (by kernel_rfl))⟩
  t0 := Try.underlying0
  a0 := Try.isAgg0
  z0 := Try.sizeOf0
  v0 := Try.zeroValue0
  t3 := Try.underlying3
  a3 := Try.isAgg3
  z3 := Try.sizeOf3
  v3 := Try.zeroValue3
  t4 := Try.underlying4
  a4 := Try.isAgg4
  z4 := Try.sizeOf4
  v4 := Try.zeroValue4
  t5 := Try.underlying5
  a5 := Try.isAgg5
  z5 := Try.sizeOf5
  v5 := Try.zeroValue5
  t9 := Try.underlying9
  a9 := Try.isAgg9
  z9 := Try.sizeOf9
  v9 := Try.zeroValue9
  t22 := Try.underlying74
  a22 := Try.isAgg74
  z22 := Try.sizeOf74
  v22 := Try.zeroValue74
  t25 := Try.underlying77
  a25 := Try.isAgg77
  z25 := Try.sizeOf77
  v25 := Try.zeroValue77
  t39 := Try.underlying80
  a39 := Try.isAgg80
  z39 := Try.sizeOf80
  v39 := Try.zeroValue80
  t45 := Try.underlying85
  a45 := Try.isAgg85
  z45 := Try.sizeOf85
  v45 := Try.zeroValue85
  t46 := Try.underlying86
  a46 := Try.isAgg86
  z46 := Try.sizeOf86
  v46 := Try.zeroValue86
  t50 := Try.underlying90
  a50 := Try.isAgg90
  z50 := Try.sizeOf90
  v50 := Try.zeroValue90
  t53 := Try.underlying93
  a53 := Try.isAgg93
  z53 := Try.sizeOf93
  v53 := Try.zeroValue93
  t55 := Try.underlying95
  a55 := Try.isAgg95
  z55 := Try.sizeOf95
  v55 := Try.zeroValue95
  t66 := Try.underlying98
  a66 := Try.isAgg98
  z66 := Try.sizeOf98
  v66 := Try.zeroValue98
  t70 := Try.underlying102
  a70 := Try.isAgg102
  z70 := Try.sizeOf102
  v70 := Try.zeroValue102
  t76 := Try.underlying104
  a76 := Try.isAgg104
  z76 := Try.sizeOf104
  v76 := Try.zeroValue104
  t77 := Try.underlying105
  a77 := Try.isAgg105
  z77 := Try.sizeOf105
  v77 := Try.zeroValue105 }
end Go.Proofs
