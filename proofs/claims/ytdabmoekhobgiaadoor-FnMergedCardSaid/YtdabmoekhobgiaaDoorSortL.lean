/-
  DERIVED: THE SHELF's CONTRACTS AT THIS DUMP, IN PLAIN WORDS (tools/lay-plain.mjs out of 'TrydSort.lean', which tools/lay-shelf.mjs wrote): THE SAME DECLARATIONS UNDER THE SAME NAMES: 'import', 'namespace', 'open', 'def', 'theorem' AND NOTHING ELSE: no command of the shelf's: FOR A HAND-IN. Each laying: the table of numbers ('.._ren') and one theorem, a field a fact of the dump's own or the kernel's comparison; each contract: ONE APPLICATION.
-/
import Derived.Shelf.SlSortCmp.WholeK
import Derived.Test.YtdabmoekhobgiaaDoorProg
namespace Go.Proofs
open Go.Shelf
def Tryd.sortL_ren : Go.Shelf.Ren := ⟨fun | 6 => 50 | 15 => 56 | 14 => 55 | 28 => 67 | 29 => 68 | 20 => 59 | 21 => 60 | 22 => 61 | 23 => 62 | 24 => 63 | 25 => 64 | 26 => 65 | 27 => 66 | 46 => 69 | 47 => 70 | 48 => 71 | 49 => 72 | 50 => 73 | 57 => 74 | n => n, fun | 22 => 33 | 24 => 42 | 25 => 71 | 3 => 3 | 39 => 80 | 0 => 0 | 53 => 23 | 55 => 94 | 4 => 4 | 46 => 86 | 45 => 85 | 50 => 90 | 5 => 5 | 9 => 9 | 66 => 95 | 70 => 99 | 76 => 101 | 77 => 102 | n => n, fun | n => n⟩
theorem Tryd.sortL : Go.Proofs.SlLaysF0.n6 Tryd.prog Tryd.sortL_ren := {
  mixed := by kernel_rfl
  f6 := ⟨Tryd.f50.name, by decide, Tryd.func50.trans (congrArg some (by kernel_rfl))⟩
  f14 := ⟨Tryd.f55.name, by decide, Tryd.func55.trans (congrArg some (by kernel_rfl))⟩
  f15 := Tryd.func56.trans (congrArg some (by kernel_rfl))
  f20 := ⟨Tryd.f59.name, by decide, Tryd.func59.trans (congrArg some (by kernel_rfl))⟩
  f21 := ⟨Tryd.f60.name, by decide, Tryd.func60.trans (congrArg some (by kernel_rfl))⟩
  f22 := ⟨Tryd.f61.name, by decide, Tryd.func61.trans (congrArg some (by kernel_rfl))⟩
  f23 := ⟨Tryd.f62.name, by decide, Tryd.func62.trans (congrArg some (by kernel_rfl))⟩
  f24 := ⟨Tryd.f63.name, by decide, Tryd.func63.trans (congrArg some (by kernel_rfl))⟩
  f25 := ⟨Tryd.f64.name, by decide, Tryd.func64.trans (congrArg some (by kernel_rfl))⟩
  f26 := ⟨Tryd.f65.name, by decide, Tryd.func65.trans (congrArg some (by kernel_rfl))⟩
  f27 := ⟨Tryd.f66.name, by decide, Tryd.func66.trans (congrArg some (by kernel_rfl))⟩
  f28 := Tryd.func67.trans (congrArg some (by kernel_rfl))
  f29 := Tryd.func68.trans (congrArg some (by kernel_rfl))
  f46 := ⟨Tryd.f69.name, by decide, Tryd.func69.trans (congrArg some (by kernel_rfl))⟩
  f47 := Tryd.func70.trans (congrArg some (by kernel_rfl))
  f48 := Tryd.func71.trans (congrArg some (by kernel_rfl))
  f49 := ⟨Tryd.f72.name, by decide, Tryd.func72.trans (congrArg some (by kernel_rfl))⟩
  f50 := ⟨Tryd.f73.name, by decide, Tryd.func73.trans (congrArg some (by kernel_rfl))⟩
  f57 := ⟨Tryd.f74.name, by decide, Tryd.func74.trans (congrArg some (by kernel_rfl))⟩
  t0 := Tryd.underlying0
  a0 := Tryd.isAgg0
  z0 := Tryd.sizeOf0
  v0 := Tryd.zeroValue0
  t3 := Tryd.underlying3
  a3 := Tryd.isAgg3
  z3 := Tryd.sizeOf3
  v3 := Tryd.zeroValue3
  t4 := Tryd.underlying4
  a4 := Tryd.isAgg4
  z4 := Tryd.sizeOf4
  v4 := Tryd.zeroValue4
  t5 := Tryd.underlying5
  a5 := Tryd.isAgg5
  z5 := Tryd.sizeOf5
  v5 := Tryd.zeroValue5
  t9 := Tryd.underlying9
  a9 := Tryd.isAgg9
  z9 := Tryd.sizeOf9
  v9 := Tryd.zeroValue9
  t22 := Tryd.underlying33
  a22 := Tryd.isAgg33
  z22 := Tryd.sizeOf33
  v22 := Tryd.zeroValue33
  t25 := Tryd.underlying71
  a25 := Tryd.isAgg71
  z25 := Tryd.sizeOf71
  v25 := Tryd.zeroValue71
  t39 := Tryd.underlying80
  a39 := Tryd.isAgg80
  z39 := Tryd.sizeOf80
  v39 := Tryd.zeroValue80
  t45 := Tryd.underlying85
  a45 := Tryd.isAgg85
  z45 := Tryd.sizeOf85
  v45 := Tryd.zeroValue85
  t46 := Tryd.underlying86
  a46 := Tryd.isAgg86
  z46 := Tryd.sizeOf86
  v46 := Tryd.zeroValue86
  t50 := Tryd.underlying90
  a50 := Tryd.isAgg90
  z50 := Tryd.sizeOf90
  v50 := Tryd.zeroValue90
  t53 := Tryd.underlying23
  a53 := Tryd.isAgg23
  z53 := Tryd.sizeOf23
  v53 := Tryd.zeroValue23
  t55 := Tryd.underlying94
  a55 := Tryd.isAgg94
  z55 := Tryd.sizeOf94
  v55 := Tryd.zeroValue94
  t66 := Tryd.underlying95
  a66 := Tryd.isAgg95
  z66 := Tryd.sizeOf95
  v66 := Tryd.zeroValue95
  t70 := Tryd.underlying99
  a70 := Tryd.isAgg99
  z70 := Tryd.sizeOf99
  v70 := Tryd.zeroValue99
  t76 := Tryd.underlying101
  a76 := Tryd.isAgg101
  z76 := Tryd.sizeOf101
  v76 := Tryd.zeroValue101
  t77 := Tryd.underlying102
  a77 := Tryd.isAgg102
  z77 := Tryd.sizeOf102
  v77 := Tryd.zeroValue102 }
end Go.Proofs
