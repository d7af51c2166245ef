/-
  DERIVED: THE SHELF's CONTRACTS AT THIS DUMP, IN PLAIN WORDS (tools/lay-plain.mjs out of 'Qxb6608761aShelf.lean', which tools/lay-shelf.mjs wrote): THE SAME DECLARATIONS UNDER THE SAME NAMES: 'import', 'namespace', 'open', 'def', 'theorem' AND NOTHING ELSE: no command of the shelf's: FOR A HAND-IN. Each laying: the table of numbers ('.._ren') and one theorem, a field a fact of the dump's own or the kernel's comparison; each contract: ONE APPLICATION.
-/
import Derived.Shelf.SlLaysF0
import Derived.Test.Qxb6608761aProg
namespace Go.Proofs
open Go.Shelf
def Try.sortL_ren : Go.Shelf.Ren := ⟨fun | 6 => 38 | 15 => 49 | 14 => 48 | 28 => 64 | 29 => 65 | 20 => 56 | 21 => 57 | 22 => 58 | 23 => 59 | 24 => 60 | 25 => 61 | 26 => 62 | 27 => 63 | 46 => 69 | 47 => 70 | 48 => 71 | 49 => 72 | 50 => 73 | 57 => 74 | n => n, fun | 22 => 66 | 24 => 77 | 25 => 87 | 3 => 3 | 39 => 97 | 0 => 0 | 53 => 116 | 55 => 75 | 4 => 4 | 46 => 109 | 45 => 108 | 50 => 113 | 5 => 5 | 9 => 9 | 66 => 119 | 70 => 123 | 76 => 125 | 77 => 60 | n => n, fun | n => n⟩
theorem Try.sortL : Go.Proofs.SlLaysF0.n6 Try.prog Try.sortL_ren := {
  mixed := by kernel_rfl
  f6 := ⟨Try.f38.name, by decide, Try.func38.trans (congrArg some (by kernel_rfl))⟩
  f14 := ⟨Try.f48.name, by decide, Try.func48.trans (congrArg some (by kernel_rfl))⟩
  f15 := Try.func49.trans (congrArg some (by kernel_rfl))
  f20 := ⟨Try.f56.name, by decide, Try.func56.trans (congrArg some (by kernel_rfl))⟩
  f21 := ⟨Try.f57.name, by decide, Try.func57.trans (congrArg some (by kernel_rfl))⟩
  f22 := ⟨Try.f58.name, by decide, Try.func58.trans (congrArg some (by kernel_rfl))⟩
  f23 := ⟨Try.f59.name, by decide, Try.func59.trans (congrArg some (by kernel_rfl))⟩
  f24 := ⟨Try.f60.name, by decide, Try.func60.trans (congrArg some (by kernel_rfl))⟩
  f25 := ⟨Try.f61.name, by decide, Try.func61.trans (congrArg some (by kernel_rfl))⟩
  f26 := ⟨Try.f62.name, by decide, Try.func62.trans (congrArg some (by kernel_rfl))⟩
  f27 := ⟨Try.f63.name, by decide, Try.func63.trans (congrArg some (by kernel_rfl))⟩
  f28 := Try.func64.trans (congrArg some (by kernel_rfl))
  f29 := Try.func65.trans (congrArg some (by kernel_rfl))
  f46 := ⟨Try.f69.name, by decide, Try.func69.trans (congrArg some (by kernel_rfl))⟩
  f47 := Try.func70.trans (congrArg some (by kernel_rfl))
  f48 := Try.func71.trans (congrArg some (by kernel_rfl))
  f49 := ⟨Try.f72.name, by decide, Try.func72.trans (congrArg some (by kernel_rfl))⟩
  f50 := ⟨Try.f73.name, by decide, Try.func73.trans (congrArg some (by kernel_rfl))⟩
  f57 := ⟨Try.f74.name, by decide, Try.func74.trans (congrArg some (by kernel_rfl))⟩
  t0 := Try.underlying0
  a0 := Try.isAgg0
  z0 := Try.sizeOf0
  v0 := Try.zeroValue0
  t3 := Try.underlying3
  a3 := Try.isAgg3
  z3 := Try.sizeOf3
  v3 := Try.zeroValue3
  t4 := Try.underlying4
  a4 := Try.isAgg4
  z4 := Try.sizeOf4
  v4 := Try.zeroValue4
  t5 := Try.underlying5
  a5 := Try.isAgg5
  z5 := Try.sizeOf5
  v5 := Try.zeroValue5
  t9 := Try.underlying9
  a9 := Try.isAgg9
  z9 := Try.sizeOf9
  v9 := Try.zeroValue9
  t22 := Try.underlying66
  a22 := Try.isAgg66
  z22 := Try.sizeOf66
  v22 := Try.zeroValue66
  t25 := Try.underlying87
  a25 := Try.isAgg87
  z25 := Try.sizeOf87
  v25 := Try.zeroValue87
  t39 := Try.underlying97
  a39 := Try.isAgg97
  z39 := Try.sizeOf97
  v39 := Try.zeroValue97
  t45 := Try.underlying108
  a45 := Try.isAgg108
  z45 := Try.sizeOf108
  v45 := Try.zeroValue108
  t46 := Try.underlying109
  a46 := Try.isAgg109
  z46 := Try.sizeOf109
  v46 := Try.zeroValue109
  t50 := Try.underlying113
  a50 := Try.isAgg113
  z50 := Try.sizeOf113
  v50 := Try.zeroValue113
  t53 := Try.underlying116
  a53 := Try.isAgg116
  z53 := Try.sizeOf116
  v53 := Try.zeroValue116
  t55 := Try.underlying75
  a55 := Try.isAgg75
  z55 := Try.sizeOf75
  v55 := Try.zeroValue75
  t66 := Try.underlying119
  a66 := Try.isAgg119
  z66 := Try.sizeOf119
  v66 := Try.zeroValue119
  t70 := Try.underlying123
  a70 := Try.isAgg123
  z70 := Try.sizeOf123
  v70 := Try.zeroValue123
  t76 := Try.underlying125
  a76 := Try.isAgg125
  z76 := Try.sizeOf125
  v76 := Try.zeroValue125
  t77 := Try.underlying60
  a77 := Try.isAgg60
  z77 := Try.sizeOf60
  v77 := Try.zeroValue60 }
end Go.Proofs
