/-
  DERIVED: THE SHELF's CONTRACTS AT THIS DUMP, IN PLAIN WORDS (tools/lay-plain.mjs out of 'TryShelfL.lean', which tools/lay-shelf.mjs wrote): THE SAME DECLARATIONS UNDER THE SAME NAMES: 'import', 'namespace', 'open', 'def', 'theorem' AND NOTHING ELSE: no command of the shelf's: FOR A HAND-IN. Each laying: the table of numbers ('.._ren') and one theorem, a field a fact of the dump's own or the kernel's comparison; each contract: ONE APPLICATION.
-/
import Derived.Shelf.SlSortCmp.NoneTotal
import Derived.Test.YtenjmnpefmjdfaaProg
namespace Go.Proofs
open Go.Shelf
def Try.sortLim_ren : Go.Shelf.Ren := ⟨fun | 6 => 41 | 15 => 61 | 14 => 60 | 28 => 74 | 29 => 75 | 20 => 66 | 21 => 67 | 22 => 68 | 23 => 69 | 24 => 70 | 25 => 71 | 26 => 72 | 27 => 73 | 46 => 76 | 47 => 77 | 48 => 78 | 49 => 79 | 50 => 80 | 57 => 81 | n => n, fun | 22 => 59 | 24 => 63 | 25 => 89 | 3 => 3 | 39 => 107 | 0 => 0 | 53 => 123 | 55 => 125 | 4 => 4 | 46 => 116 | 45 => 115 | 50 => 120 | 5 => 5 | 9 => 9 | 66 => 126 | 70 => 130 | 76 => 132 | 77 => 133 | n => n, fun | n => n⟩
theorem Try.sortLim : Go.Proofs.SlLaysF0.n6 Try.prog Try.sortLim_ren := {
  mixed := by kernel_rfl
  f6 := ⟨Try.f41.name, by decide, Try.func41.trans (congrArg some (by kernel_rfl))⟩
  f14 := ⟨Try.f60.name, by decide, Try.func60.trans (congrArg some (by kernel_rfl))⟩
  f15 := Try.func61.trans (congrArg some (by kernel_rfl))
  f20 := ⟨Try.f66.name, by decide, Try.func66.trans (congrArg some (by kernel_rfl))⟩
  f21 := ⟨Try.f67.name, by decide, Try.func67.trans (congrArg some (by kernel_rfl))⟩
  f22 := ⟨Try.f68.name, by decide, Try.func68.trans (congrArg some (by kernel_rfl))⟩
  f23 := ⟨Try.f69.name, by decide, Try.func69.trans (congrArg some (by kernel_rfl))⟩
  f24 := ⟨Try.f70.name, by decide, Try.func70.trans (congrArg some (by kernel_rfl))⟩
  f25 := ⟨Try.f71.name, by decide, Try.func71.trans (congrArg some (by kernel_rfl))⟩
  f26 := ⟨Try.f72.name, by decide, Try.func72.trans (congrArg some (by kernel_rfl))⟩
  f27 := ⟨Try.f73.name, by decide, Try.func73.trans (congrArg some (by kernel_rfl))⟩
  f28 := Try.func74.trans (congrArg some (by kernel_rfl))
  f29 := Try.func75.trans (congrArg some (by kernel_rfl))
  f46 := ⟨Try.f76.name, by decide, Try.func76.trans (congrArg some (by kernel_rfl))⟩
  f47 := Try.func77.trans (congrArg some (by kernel_rfl))
  f48 := Try.func78.trans (congrArg some (by kernel_rfl))
  f49 := ⟨Try.f79.name, by decide, Try.func79.trans (congrArg some (by kernel_rfl))⟩
  f50 := ⟨Try.f80.name, by decide, Try.func80.trans (congrArg some (by kernel_rfl))⟩
  f57 := ⟨Try.f81.name, by decide, Try.func81.trans (congrArg some (by kernel_rfl))⟩
  t0 := Try.underlying0
  a0 := Try.isAgg0
  z0 := Try.sizeOf0
  v0 := Try.zeroValue0
  t3 := Try.underlying3
  a3 := Try.isAgg3
  z3 := Try.sizeOf3
  v3 := Try.zeroValue3
  t4 := Try.underlying4
  a4 := Try.isAgg4
  z4 := Try.sizeOf4
  v4 := Try.zeroValue4
  t5 := Try.underlying5
  a5 := Try.isAgg5
  z5 := Try.sizeOf5
  v5 := Try.zeroValue5
  t9 := Try.underlying9
  a9 := Try.isAgg9
  z9 := Try.sizeOf9
  v9 := Try.zeroValue9
  t22 := Try.underlying59
  a22 := Try.isAgg59
  z22 := Try.sizeOf59
  v22 := Try.zeroValue59
  t25 := Try.underlying89
  a25 := Try.isAgg89
  z25 := Try.sizeOf89
  v25 := Try.zeroValue89
  t39 := Try.underlying107
  a39 := Try.isAgg107
  z39 := Try.sizeOf107
  v39 := Try.zeroValue107
  t45 := Try.underlying115
  a45 := Try.isAgg115
  z45 := Try.sizeOf115
  v45 := Try.zeroValue115
  t46 := Try.underlying116
  a46 := Try.isAgg116
  z46 := Try.sizeOf116
  v46 := Try.zeroValue116
  t50 := Try.underlying120
  a50 := Try.isAgg120
  z50 := Try.sizeOf120
  v50 := Try.zeroValue120
  t53 := Try.underlying123
  a53 := Try.isAgg123
  z53 := Try.sizeOf123
  v53 := Try.zeroValue123
  t55 := Try.underlying125
  a55 := Try.isAgg125
  z55 := Try.sizeOf125
  v55 := Try.zeroValue125
  t66 := Try.underlying126
  a66 := Try.isAgg126
  z66 := Try.sizeOf126
  v66 := Try.zeroValue126
  t70 := Try.underlying130
  a70 := Try.isAgg130
  z70 := Try.sizeOf130
  v70 := Try.zeroValue130
  t76 := Try.underlying132
  a76 := Try.isAgg132
  z76 := Try.sizeOf132
  v76 := Try.zeroValue132
  t77 := Try.underlying133
  a77 := Try.isAgg133
  z77 := Try.sizeOf133
  v77 := Try.zeroValue133 }
end Go.Proofs
