/-
  DERIVED: THE SHELF's CONTRACTS AT THIS DUMP, IN PLAIN WORDS (tools/lay-plain.mjs out of 'Qxb6612439aShelfS.lean', which tools/lay-shelf.mjs wrote): THE SAME DECLARATIONS UNDER THE SAME NAMES: 'import', 'namespace', 'open', 'def', 'theorem' AND NOTHING ELSE: no command of the shelf's: FOR A HAND-IN. Each laying: the table of numbers ('.._ren') and one theorem, a field a fact of the dump's own or the kernel's comparison; each contract: ONE APPLICATION.
-/
import Derived.Shelf.SlGeneric
import Derived.Shelf.SlSortCmp.WholeK
import Derived.Shelf.SlSortCmp.NoneTotal
import Derived.Ground.SlsfProg
import Derived.Test.Qxb6612439aProg
namespace Go.Proofs
open Go.Shelf
set_option maxRecDepth 1000000
def Try.sortLine_ren : Go.Shelf.Ren := ⟨fun | 6 => 17 | 15 => 28 | 14 => 27 | 28 => 41 | 29 => 42 | 20 => 33 | 21 => 34 | 22 => 35 | 23 => 36 | 24 => 37 | 25 => 38 | 26 => 39 | 27 => 40 | 46 => 49 | 47 => 50 | 48 => 51 | 49 => 52 | 50 => 53 | 57 => 55 | n => n, fun | 22 => 43 | 24 => 50 | 25 => 53 | 3 => 3 | 39 => 66 | 0 => 0 | 53 => 77 | 55 => 79 | 4 => 4 | 46 => 70 | 45 => 69 | 50 => 74 | 5 => 5 | 9 => 9 | 66 => 83 | 70 => 87 | 76 => 91 | 77 => 92 | n => n, fun | n => n⟩
theorem Try.sortLine : Go.Proofs.SlLaysF0.n6 Try.prog Try.sortLine_ren := {
  mixed := by kernel_rfl
  f6 := ⟨Try.f17.name, by decide, Try.func17.trans (congrArg some (by kernel_rfl))⟩
  f14 := ⟨Try.f27.name, by decide, Try.func27.trans (congrArg some (by kernel_rfl))⟩
  f15 := Try.func28.trans (congrArg some (by kernel_rfl))
  f20 := ⟨Try.f33.name, by decide, Try.func33.trans (congrArg some (by kernel_rfl))⟩
  f21 := ⟨Try.f34.name, by decide, Try.func34.trans (congrArg some (by kernel_rfl))⟩
  f22 := ⟨Try.f35.name, by decide, Try.func35.trans (congrArg some (by kernel_rfl))⟩
  f23 := ⟨Try.f36.name, by decide, Try.func36.trans (congrArg some (by kernel_rfl))⟩
  f24 := ⟨Try.f37.name, by decide, Try.func37.trans (congrArg some (by kernel_rfl))⟩
  f25 := ⟨Try.f38.name, by decide, Try.func38.trans (congrArg some (by kernel_rfl))⟩
  f26 := ⟨Try.f39.name, by decide, Try.func39.trans (congrArg some (by kernel_rfl))⟩
  f27 := ⟨Try.f40.name, by decide, Try.func40.trans (congrArg some (by kernel_rfl))⟩
  f28 := Try.func41.trans (congrArg some (by kernel_rfl))
  f29 := Try.func42.trans (congrArg some (by kernel_rfl))
  f46 := ⟨Try.f49.name, by decide, Try.func49.trans (congrArg some (by kernel_rfl))⟩
  f47 := Try.func50.trans (congrArg some (by kernel_rfl))
  f48 := Try.func51.trans (congrArg some (by kernel_rfl))
  f49 := ⟨Try.f52.name, by decide, Try.func52.trans (congrArg some (by kernel_rfl))⟩
  f50 := ⟨Try.f53.name, by decide, Try.func53.trans (congrArg some (by kernel_rfl))⟩
  f57 := ⟨Try.f55.name, by decide, Try.func55.trans (congrArg some (by kernel_rfl))⟩
  t0 := Try.underlying0
  a0 := Try.isAgg0
  z0 := Try.sizeOf0
  v0 := Try.zeroValue0
  t3 := Try.underlying3
  a3 := Try.isAgg3
  z3 := Try.sizeOf3
  v3 := Try.zeroValue3
  t4 := Try.underlying4
  a4 := Try.isAgg4
  z4 := Try.sizeOf4
  v4 := Try.zeroValue4
  t5 := Try.underlying5
  a5 := Try.isAgg5
  z5 := Try.sizeOf5
  v5 := Try.zeroValue5
  t9 := Try.underlying9
  a9 := Try.isAgg9
  z9 := Try.sizeOf9
  v9 := Try.zeroValue9
  t22 := Try.underlying43
  a22 := Try.isAgg43
  z22 := Try.sizeOf43
  v22 := Try.zeroValue43
  t25 := Try.underlying53
  a25 := Try.isAgg53
  z25 := Try.sizeOf53
  v25 := Try.zeroValue53
  t39 := Try.underlying66
  a39 := Try.isAgg66
  z39 := Try.sizeOf66
  v39 := Try.zeroValue66
  t45 := Try.underlying69
  a45 := Try.isAgg69
  z45 := Try.sizeOf69
  v45 := Try.zeroValue69
  t46 := Try.underlying70
  a46 := Try.isAgg70
  z46 := Try.sizeOf70
  v46 := Try.zeroValue70
  t50 := Try.underlying74
  a50 := Try.isAgg74
  z50 := Try.sizeOf74
  v50 := Try.zeroValue74
  t53 := Try.underlying77
  a53 := Try.isAgg77
  z53 := Try.sizeOf77
  v53 := Try.zeroValue77
  t55 := Try.underlying79
  a55 := Try.isAgg79
  z55 := Try.sizeOf79
  v55 := Try.zeroValue79
  t66 := Try.underlying83
  a66 := Try.isAgg83
  z66 := Try.sizeOf83
  v66 := Try.zeroValue83
  t70 := Try.underlying87
  a70 := Try.isAgg87
  z70 := Try.sizeOf87
  v70 := Try.zeroValue87
  t76 := Try.underlying91
  a76 := Try.isAgg91
  z76 := Try.sizeOf91
  v76 := Try.zeroValue91
  t77 := Try.underlying92
  a77 := Try.isAgg92
  z77 := Try.sizeOf92
  v77 := Try.zeroValue92 }
end Go.Proofs
