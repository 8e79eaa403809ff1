/-
  DERIVED: THE SHELF's CONTRACTS AT THIS DUMP, IN PLAIN WORDS (tools/lay-plain.mjs out of 'TryShelfL.lean', which tools/lay-shelf.mjs wrote): THE SAME DECLARATIONS UNDER THE SAME NAMES: 'import', 'namespace', 'open', 'def', 'theorem' AND NOTHING ELSE: no command of the shelf's: FOR A HAND-IN. Each laying: the table of numbers ('.._ren') and one theorem, a field a fact of the dump's own or the kernel's comparison; each contract: ONE APPLICATION.
-/
import Derived.Shelf.Small.Strs
import Derived.Shelf.SlSortCmp.NoneTotal
import Derived.Test.YtklhfckdifkpaaaProg
namespace Go.Proofs
open Go.Shelf
def Try.lays213_ren : Go.Shelf.Ren := ⟨fun | 213 => 80 | 265 => 85 | n => n, fun | 9 => 9 | 3 => 3 | n => n, fun | n => n⟩
theorem Try.lays213 : Go.Proofs.Lays.n213 Try.prog Try.lays213_ren := {
  mixed := by kernel_rfl
  f213 := Try.func80.trans (congrArg some (by kernel_rfl))
  f265 := Try.func85.trans (congrArg some (by kernel_rfl))
  t3 := Try.underlying3
  a3 := Try.isAgg3
  z3 := Try.sizeOf3
  v3 := Try.zeroValue3
  t9 := Try.underlying9
  a9 := Try.isAgg9
  z9 := Try.sizeOf9
  v9 := Try.zeroValue9 }
open Go.RowKit in
/-- internal/bytealg.CompareString (what strings.Compare calls): IT RETURNS 'Lib.compareBytes a b'; the world is as it was. (LAID: no walk: one application.) -/
theorem Try.bytealg_CompareString (a b : ByteArray) (w : World) :
    Calls Try.prog 80 #[.string a, .string b] w fun e w' => e = .returned (.int .i64 (Lib.compareBytes a.data.toList b.data.toList)) ∧ w' = w := Any.bytealg_CompareString Try.lays213 a b w
def Try.lays106_ren : Go.Shelf.Ren := ⟨fun | 106 => 62 | 213 => 80 | 265 => 85 | n => n, fun | 9 => 9 | 3 => 3 | n => n, fun | n => n⟩
theorem Try.lays106 : Go.Proofs.Lays.n106 Try.prog Try.lays106_ren := {
  mixed := by kernel_rfl
  f106 := Try.func62.trans (congrArg some (by kernel_rfl))
  f213 := Try.func80.trans (congrArg some (by kernel_rfl))
  f265 := Try.func85.trans (congrArg some (by kernel_rfl))
  t3 := Try.underlying3
  a3 := Try.isAgg3
  z3 := Try.sizeOf3
  v3 := Try.zeroValue3
  t9 := Try.underlying9
  a9 := Try.isAgg9
  z9 := Try.sizeOf9
  v9 := Try.zeroValue9 }
open Go.RowKit in
/-- strings.Compare: "Compare returns an integer comparing two strings lexicographically. The result will be 0 if a == b, -1 if a < b, and +1 if a > b.": IT RETURNS 'Lib.compareBytes a b'; the world is as it was. (LAID: no walk: one application.) -/
theorem Try.strings_Compare (a b : ByteArray) (w : World) :
    Calls Try.prog 62 #[.string a, .string b] w fun e w' => e = .returned (.int .i64 (Lib.compareBytes a.data.toList b.data.toList)) ∧ w' = w := Any.strings_Compare Try.lays106 a b w
def Try.sortLim_ren : Go.Shelf.Ren := ⟨fun | 6 => 78 | 15 => 84 | 14 => 83 | 28 => 94 | 29 => 95 | 20 => 86 | 21 => 87 | 22 => 88 | 23 => 89 | 24 => 90 | 25 => 91 | 26 => 92 | 27 => 93 | 46 => 96 | 47 => 97 | 48 => 98 | 49 => 99 | 50 => 100 | 57 => 101 | n => n, fun | 22 => 83 | 24 => 35 | 25 => 85 | 3 => 3 | 39 => 123 | 0 => 0 | 53 => 150 | 55 => 152 | 4 => 4 | 46 => 144 | 45 => 143 | 50 => 98 | 5 => 5 | 9 => 9 | 66 => 153 | 70 => 157 | 76 => 159 | 77 => 160 | n => n, fun | n => n⟩
theorem Try.sortLim : Go.Proofs.SlLaysF0.n6 Try.prog Try.sortLim_ren := {
  mixed := by kernel_rfl
  f6 := ⟨Try.f78.name, by decide, Try.func78.trans (congrArg some (by kernel_rfl))⟩
  f14 := ⟨Try.f83.name, by decide, Try.func83.trans (congrArg some (by kernel_rfl))⟩
  f15 := Try.func84.trans (congrArg some (by kernel_rfl))
  f20 := ⟨Try.f86.name, by decide, Try.func86.trans (congrArg some (by kernel_rfl))⟩
  f21 := ⟨Try.f87.name, by decide, Try.func87.trans (congrArg some (by kernel_rfl))⟩
  f22 := ⟨Try.f88.name, by decide, Try.func88.trans (congrArg some (by kernel_rfl))⟩
  f23 := ⟨Try.f89.name, by decide, Try.func89.trans (congrArg some (by kernel_rfl))⟩
  f24 := ⟨Try.f90.name, by decide, Try.func90.trans (congrArg some (by kernel_rfl))⟩
  f25 := ⟨Try.f91.name, by decide, Try.func91.trans (congrArg some (by kernel_rfl))⟩
  f26 := ⟨Try.f92.name, by decide, Try.func92.trans (congrArg some (by kernel_rfl))⟩
  f27 := ⟨Try.f93.name, by decide, Try.func93.trans (congrArg some (by kernel_rfl))⟩
  f28 := Try.func94.trans (congrArg some (by kernel_rfl))
  f29 := Try.func95.trans (congrArg some (by kernel_rfl))
  f46 := ⟨Try.f96.name, by decide, Try.func96.trans (congrArg some (by kernel_rfl))⟩
  f47 := Try.func97.trans (congrArg some (by kernel_rfl))
  f48 := Try.func98.trans (congrArg some (by kernel_rfl))
  f49 := ⟨Try.f99.name, by decide, Try.func99.trans (congrArg some (by kernel_rfl))⟩
  f50 := ⟨Try.f100.name, by decide, Try.func100.trans (congrArg some (by kernel_rfl))⟩
  f57 := ⟨Try.f101.name, by decide, Try.func101.trans (congrArg some (by kernel_rfl))⟩
  t0 := Try.underlying0
  a0 := Try.isAgg0
  z0 := Try.sizeOf0
  v0 := Try.zeroValue0
  t3 := Try.underlying3
  a3 := Try.isAgg3
  z3 := Try.sizeOf3
  v3 := Try.zeroValue3
  t4 := Try.underlying4
  a4 := Try.isAgg4
  z4 := Try.sizeOf4
  v4 := Try.zeroValue4
  t5 := Try.underlying5
  a5 := Try.isAgg5
  z5 := Try.sizeOf5
  v5 := Try.zeroValue5
  t9 := Try.underlying9
  a9 := Try.isAgg9
  z9 := Try.sizeOf9
  v9 := Try.zeroValue9
  t22 := Try.underlying83
  a22 := Try.isAgg83
  z22 := Try.sizeOf83
  v22 := Try.zeroValue83
  t25 := Try.underlying85
  a25 := Try.isAgg85
  z25 := Try.sizeOf85
  v25 := Try.zeroValue85
  t39 := Try.underlying123
  a39 := Try.isAgg123
  z39 := Try.sizeOf123
  v39 := Try.zeroValue123
  t45 := Try.underlying143
  a45 := Try.isAgg143
  z45 := Try.sizeOf143
  v45 := Try.zeroValue143
  t46 := Try.underlying144
  a46 := Try.isAgg144
  z46 := Try.sizeOf144
  v46 := Try.zeroValue144
  t50 := Try.underlying98
  a50 := Try.isAgg98
  z50 := Try.sizeOf98
  v50 := Try.zeroValue98
  t53 := Try.underlying150
  a53 := Try.isAgg150
  z53 := Try.sizeOf150
  v53 := Try.zeroValue150
  t55 := Try.underlying152
  a55 := Try.isAgg152
  z55 := Try.sizeOf152
  v55 := Try.zeroValue152
  t66 := Try.underlying153
  a66 := Try.isAgg153
  z66 := Try.sizeOf153
  v66 := Try.zeroValue153
  t70 := Try.underlying157
  a70 := Try.isAgg157
  z70 := Try.sizeOf157
  v70 := Try.zeroValue157
  t76 := Try.underlying159
  a76 := Try.isAgg159
  z76 := Try.sizeOf159
  v76 := Try.zeroValue159
  t77 := Try.underlying160
  a77 := Try.isAgg160
  z77 := Try.sizeOf160
  v77 := Try.zeroValue160 }
end Go.Proofs
