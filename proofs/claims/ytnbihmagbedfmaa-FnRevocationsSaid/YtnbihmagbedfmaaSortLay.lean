/-
  DERIVED: THE SHELF's CONTRACTS AT THIS DUMP, IN PLAIN WORDS (tools/lay-plain.mjs out of 'YtnbihmagbedfmaaSortLay.lean', which tools/lay-shelf.mjs wrote): THE SAME DECLARATIONS UNDER THE SAME NAMES: 'import', 'namespace', 'open', 'def', 'theorem' AND NOTHING ELSE: no command of the shelf's: FOR A HAND-IN. Each laying: the table of numbers ('.._ren') and one theorem, a field a fact of the dump's own or the kernel's comparison; each contract: ONE APPLICATION.
-/
import Derived.Shelf.SlGeneric
import Derived.Shelf.SlSortCmp.NoneTotal
import Derived.Ground.SlsfProg
import Derived.Test.YtnbihmagbedfmaaProg
namespace Go.Proofs
open Go.Shelf
def Try.sortEnt_ren : Go.Shelf.Ren := ⟨fun | 6 => 36 | 15 => 50 | 14 => 49 | 28 => 63 | 29 => 64 | 20 => 55 | 21 => 56 | 22 => 57 | 23 => 58 | 24 => 59 | 25 => 60 | 26 => 61 | 27 => 62 | 46 => 67 | 47 => 68 | 48 => 69 | 49 => 70 | 50 => 71 | 57 => 81 | n => n, fun | 22 => 43 | 24 => 48 | 25 => 77 | 3 => 3 | 39 => 90 | 0 => 0 | 53 => 109 | 55 => 67 | 4 => 4 | 46 => 102 | 45 => 101 | 50 => 106 | 5 => 5 | 9 => 9 | 66 => 113 | 70 => 117 | 76 => 124 | 77 => 125 | n => n, fun | n => n⟩
theorem Try.sortEnt : Go.Proofs.SlLaysF0.n6 Try.prog Try.sortEnt_ren := {
  mixed := by kernel_rfl
  f6 := ⟨Try.f36.name, by decide, Try.func36.trans (congrArg some (by kernel_rfl))⟩
  f14 := ⟨Try.f49.name, by decide, Try.func49.trans (congrArg some (by kernel_rfl))⟩
  f15 := Try.func50.trans (congrArg some (by kernel_rfl))
  f20 := ⟨Try.f55.name, by decide, Try.func55.trans (congrArg some (by kernel_rfl))⟩
  f21 := ⟨Try.f56.name, by decide, Try.func56.trans (congrArg some (by kernel_rfl))⟩
  f22 := ⟨Try.f57.name, by decide, Try.func57.trans (congrArg some (by kernel_rfl))⟩
  f23 := ⟨Try.f58.name, by decide, Try.func58.trans (congrArg some (by kernel_rfl))⟩
  f24 := ⟨Try.f59.name, by decide, Try.func59.trans (congrArg some (by kernel_rfl))⟩
  f25 := ⟨Try.f60.name, by decide, Try.func60.trans (congrArg some (by kernel_rfl))⟩
  f26 := ⟨Try.f61.name, by decide, Try.func61.trans (congrArg some (by kernel_rfl))⟩
  f27 := ⟨Try.f62.name, by decide, Try.func62.trans (congrArg some (by kernel_rfl))⟩
  f28 := Try.func63.trans (congrArg some (by kernel_rfl))
  f29 := Try.func64.trans (congrArg some (by kernel_rfl))
  f46 := ⟨Try.f67.name, by decide, Try.func67.trans (congrArg some (by kernel_rfl))⟩
  f47 := Try.func68.trans (congrArg some (by kernel_rfl))
  f48 := Try.func69.trans (congrArg some (by kernel_rfl))
  f49 := ⟨Try.f70.name, by decide, Try.func70.trans (congrArg some (by kernel_rfl))⟩
  f50 := ⟨Try.f71.name, by decide, Try.func71.trans (congrArg some (by kernel_rfl))⟩
  f57 := ⟨Try.f81.name, by decide, Try.func81.trans (congrArg some (by kernel_rfl))⟩
  t0 := Try.underlying0
  a0 := Try.isAgg0
  z0 := Try.sizeOf0
  v0 := Try.zeroValue0
  t3 := Try.underlying3
  a3 := Try.isAgg3
  z3 := Try.sizeOf3
  v3 := Try.zeroValue3
  t4 := Try.underlying4
  a4 := Try.isAgg4
  z4 := Try.sizeOf4
  v4 := Try.zeroValue4
  t5 := Try.underlying5
  a5 := Try.isAgg5
  z5 := Try.sizeOf5
  v5 := Try.zeroValue5
  t9 := Try.underlying9
  a9 := Try.isAgg9
  z9 := Try.sizeOf9
  v9 := Try.zeroValue9
  t22 := Try.underlying43
  a22 := Try.isAgg43
  z22 := Try.sizeOf43
  v22 := Try.zeroValue43
  t25 := Try.underlying77
  a25 := Try.isAgg77
  z25 := Try.sizeOf77
  v25 := Try.zeroValue77
  t39 := Try.underlying90
  a39 := Try.isAgg90
  z39 := Try.sizeOf90
  v39 := Try.zeroValue90
  t45 := Try.underlying101
  a45 := Try.isAgg101
  z45 := Try.sizeOf101
  v45 := Try.zeroValue101
  t46 := Try.underlying102
  a46 := Try.isAgg102
  z46 := Try.sizeOf102
  v46 := Try.zeroValue102
  t50 := Try.underlying106
  a50 := Try.isAgg106
  z50 := Try.sizeOf106
  v50 := Try.zeroValue106
  t53 := Try.underlying109
  a53 := Try.isAgg109
  z53 := Try.sizeOf109
  v53 := Try.zeroValue109
  t55 := Try.underlying67
  a55 := Try.isAgg67
  z55 := Try.sizeOf67
  v55 := Try.zeroValue67
  t66 := Try.underlying113
  a66 := Try.isAgg113
  z66 := Try.sizeOf113
  v66 := Try.zeroValue113
  t70 := Try.underlying117
  a70 := Try.isAgg117
  z70 := Try.sizeOf117
  v70 := Try.zeroValue117
  t76 := Try.underlying124
  a76 := Try.isAgg124
  z76 := Try.sizeOf124
  v76 := Try.zeroValue124
  t77 := Try.underlying125
  a77 := Try.isAgg125
  z77 := Try.sizeOf125
  v77 := Try.zeroValue125 }
end Go.Proofs
