/-
  DERIVED: THE SHELF's CONTRACTS AT THIS DUMP, IN PLAIN WORDS (tools/lay-plain.mjs out of 'TryShelf.lean', which tools/lay-shelf.mjs wrote): THE SAME DECLARATIONS UNDER THE SAME NAMES: 'import', 'namespace', 'open', 'def', 'theorem' AND NOTHING ELSE: no command of the shelf's: FOR A HAND-IN. Each laying: the table of numbers ('.._ren') and one theorem, a field a fact of the dump's own or the kernel's comparison; each contract: ONE APPLICATION.
-/
import Derived.Shelf.Small.Bits
import Derived.Shelf.Strconv.Itoa0
import Derived.Shelf.Sort.Plain
import Derived.Shelf.Slices.In.SortNone
import Derived.Test.YtmlhncifcaicpaaProg
namespace Go.Proofs
open Go.Shelf
def Try.lays128_ren : Go.Shelf.Ren := ⟨fun | 128 => 68 | n => n, fun | 51 => 126 | 3 => 3 | 4 => 4 | 46 => 107 | 5 => 5 | 9 => 9 | n => n, fun | n => n⟩
theorem Try.lays128 : Go.Proofs.Lays.n128 Try.prog Try.lays128_ren := {
  mixed := by kernel_rfl
  f128 := Try.func68.trans (congrArg some (by kernel_rfl))
  t3 := Try.underlying3
  a3 := Try.isAgg3
  z3 := Try.sizeOf3
  v3 := Try.zeroValue3
  t4 := Try.underlying4
  a4 := Try.isAgg4
  z4 := Try.sizeOf4
  v4 := Try.zeroValue4
  t5 := Try.underlying5
  a5 := Try.isAgg5
  z5 := Try.sizeOf5
  v5 := Try.zeroValue5
  t9 := Try.underlying9
  a9 := Try.isAgg9
  z9 := Try.sizeOf9
  v9 := Try.zeroValue9
  t46 := Try.underlying107
  a46 := Try.isAgg107
  z46 := Try.sizeOf107
  v46 := Try.zeroValue107
  t51 := Try.underlying126
  a51 := Try.isAgg126
  z51 := Try.sizeOf126
  v51 := Try.zeroValue126 }
/-- bits.Len32: "Len32 returns the minimum number of bits required to represent x; the result is 0 for x == 0.": IT RETURNS 'Lib.bitLen x'; the world is as it was. ('h0', 'h1': x is a uint32.) (LAID: no walk: one application.) -/
theorem Try.bits_Len32 (x : Int) (w : World) (h0 : 0 ≤ x) (h1 : x ≤ 4294967295) :
    Calls Try.prog 68 #[.int .u32 x] w fun e w' => e = .returned (.int .i64 (Lib.bitLen x.toNat)) ∧ w' = w := Any.bits_Len32 Try.lays128 x w h0 h1
def Try.lays125_ren : Go.Shelf.Ren := ⟨fun | 125 => 58 | 128 => 68 | 129 => 69 | n => n, fun | 46 => 107 | 3 => 3 | 51 => 126 | 53 => 128 | 4 => 4 | 5 => 5 | 9 => 9 | n => n, fun | n => n⟩
theorem Try.lays125 : Go.Proofs.Lays.n125 Try.prog Try.lays125_ren := {
  mixed := by kernel_rfl
  f125 := Try.func58.trans (congrArg some (by kernel_rfl))
  f128 := Try.func68.trans (congrArg some (by kernel_rfl))
  f129 := Try.func69.trans (congrArg some (by kernel_rfl))
  t3 := Try.underlying3
  a3 := Try.isAgg3
  z3 := Try.sizeOf3
  v3 := Try.zeroValue3
  t4 := Try.underlying4
  a4 := Try.isAgg4
  z4 := Try.sizeOf4
  v4 := Try.zeroValue4
  t5 := Try.underlying5
  a5 := Try.isAgg5
  z5 := Try.sizeOf5
  v5 := Try.zeroValue5
  t9 := Try.underlying9
  a9 := Try.isAgg9
  z9 := Try.sizeOf9
  v9 := Try.zeroValue9
  t46 := Try.underlying107
  a46 := Try.isAgg107
  z46 := Try.sizeOf107
  v46 := Try.zeroValue107
  t51 := Try.underlying126
  a51 := Try.isAgg126
  z51 := Try.sizeOf126
  v51 := Try.zeroValue126
  t53 := Try.underlying128
  a53 := Try.isAgg128
  z53 := Try.sizeOf128
  v53 := Try.zeroValue128 }
/-- bits.Len: "Len returns the minimum number of bits required to represent x; the result is 0 for x == 0.": IT RETURNS 'Lib.bitLen x'; the world is as it was. (A uint has 64 bits in the model.) ITS CALLEE bits.Len64 IS MET BY ITS OWN CONTRACT OFF THE SHELF (lay that first). (LAID: no walk: one application.) -/
theorem Try.bits_Len (x : Int) (w : World) (h0 : 0 ≤ x) (h1 : x ≤ 18446744073709551615) :
    Calls Try.prog 58 #[.int .u64 x] w fun e w' => e = .returned (.int .i64 (Lib.bitLen x.toNat)) ∧ w' = w := Any.bits_Len Try.lays125 x w h0 h1
def Try.lays129_ren : Go.Shelf.Ren := ⟨fun | 129 => 69 | n => n, fun | 53 => 128 | 3 => 3 | 4 => 4 | 46 => 107 | 5 => 5 | 9 => 9 | n => n, fun | n => n⟩
theorem Try.lays129 : Go.Proofs.Lays.n129 Try.prog Try.lays129_ren := {
  mixed := by kernel_rfl
  f129 := Try.func69.trans (congrArg some (by kernel_rfl))
  t3 := Try.underlying3
  a3 := Try.isAgg3
  z3 := Try.sizeOf3
  v3 := Try.zeroValue3
  t4 := Try.underlying4
  a4 := Try.isAgg4
  z4 := Try.sizeOf4
  v4 := Try.zeroValue4
  t5 := Try.underlying5
  a5 := Try.isAgg5
  z5 := Try.sizeOf5
  v5 := Try.zeroValue5
  t9 := Try.underlying9
  a9 := Try.isAgg9
  z9 := Try.sizeOf9
  v9 := Try.zeroValue9
  t46 := Try.underlying107
  a46 := Try.isAgg107
  z46 := Try.sizeOf107
  v46 := Try.zeroValue107
  t53 := Try.underlying128
  a53 := Try.isAgg128
  z53 := Try.sizeOf128
  v53 := Try.zeroValue128 }
/-- bits.Len64: "Len64 returns the minimum number of bits required to represent x; the result is 0 for x == 0.": IT RETURNS 'Lib.bitLen x'; the world is as it was. ('h0', 'h1': x is a uint64.) (LAID: no walk: one application.) -/
theorem Try.bits_Len64 (x : Int) (w : World) (h0 : 0 ≤ x) (h1 : x ≤ 18446744073709551615) :
    Calls Try.prog 69 #[.int .u64 x] w fun e w' => e = .returned (.int .i64 (Lib.bitLen x.toNat)) ∧ w' = w := Any.bits_Len64 Try.lays129 x w h0 h1
def Try.lays189_ren : Go.Shelf.Ren := ⟨fun | 189 => 54 | 125 => 58 | 257 => 57 | 128 => 68 | 129 => 69 | 294 => 59 | 295 => 60 | 296 => 61 | 297 => 62 | 298 => 63 | 299 => 64 | 216 => 65 | 300 => 66 | 301 => 67 | 328 => 70 | 329 => 71 | 330 => 72 | 331 => 73 | 332 => 74 | 215 => 75 | 343 => 76 | n => n, fun | 28 => 108 | 3 => 3 | 46 => 107 | 0 => 0 | 51 => 126 | 53 => 128 | 4 => 4 | 183 => 119 | 182 => 118 | 131 => 90 | 5 => 5 | 9 => 9 | 218 => 129 | 222 => 133 | 228 => 135 | 229 => 136 | n => n, fun | n => n⟩
theorem Try.lays189 : Go.Proofs.Lays.n189 Try.prog Try.lays189_ren := {
  mixed := by kernel_rfl
  f125 := Try.func58.trans (congrArg some (by kernel_rfl))
  f128 := Try.func68.trans (congrArg some (by kernel_rfl))
  f129 := Try.func69.trans (congrArg some (by kernel_rfl))
  f189 := Try.func54.trans (congrArg some (by kernel_rfl))
  f215 := Try.func75.trans (congrArg some (by kernel_rfl))
  f216 := Try.func65.trans (congrArg some (by kernel_rfl))
  f257 := Try.func57.trans (congrArg some (by kernel_rfl))
  f294 := Try.func59.trans (congrArg some (by kernel_rfl))
  f295 := Try.func60.trans (congrArg some (by kernel_rfl))
  f296 := Try.func61.trans (congrArg some (by kernel_rfl))
  f297 := Try.func62.trans (congrArg some (by kernel_rfl))
  f298 := Try.func63.trans (congrArg some (by kernel_rfl))
  f299 := Try.func64.trans (congrArg some (by kernel_rfl))
  f300 := Try.func66.trans (congrArg some (by kernel_rfl))
  f301 := Try.func67.trans (congrArg some (by kernel_rfl))
  f328 := Try.func70.trans (congrArg some (by kernel_rfl))
  f329 := Try.func71.trans (congrArg some (by kernel_rfl))
  f330 := Try.func72.trans (congrArg some (by kernel_rfl))
  f331 := Try.func73.trans (congrArg some (by kernel_rfl))
  f332 := Try.func74.trans (congrArg some (by kernel_rfl))
  f343 := Try.func76.trans (congrArg some (by kernel_rfl))
  t0 := Try.underlying0
  a0 := Try.isAgg0
  z0 := Try.sizeOf0
  v0 := Try.zeroValue0
  t3 := Try.underlying3
  a3 := Try.isAgg3
  z3 := Try.sizeOf3
  v3 := Try.zeroValue3
  t4 := Try.underlying4
  a4 := Try.isAgg4
  z4 := Try.sizeOf4
  v4 := Try.zeroValue4
  t5 := Try.underlying5
  a5 := Try.isAgg5
  z5 := Try.sizeOf5
  v5 := Try.zeroValue5
  t9 := Try.underlying9
  a9 := Try.isAgg9
  z9 := Try.sizeOf9
  v9 := Try.zeroValue9
  t28 := Try.underlying108
  a28 := Try.isAgg108
  z28 := Try.sizeOf108
  v28 := Try.zeroValue108
  t46 := Try.underlying107
  a46 := Try.isAgg107
  z46 := Try.sizeOf107
  v46 := Try.zeroValue107
  t51 := Try.underlying126
  a51 := Try.isAgg126
  z51 := Try.sizeOf126
  v51 := Try.zeroValue126
  t53 := Try.underlying128
  a53 := Try.isAgg128
  z53 := Try.sizeOf128
  v53 := Try.zeroValue128
  t131 := Try.underlying90
  a131 := Try.isAgg90
  z131 := Try.sizeOf90
  v131 := Try.zeroValue90
  t182 := Try.underlying118
  a182 := Try.isAgg118
  z182 := Try.sizeOf118
  v182 := Try.zeroValue118
  t183 := Try.underlying119
  a183 := Try.isAgg119
  z183 := Try.sizeOf119
  v183 := Try.zeroValue119
  t218 := Try.underlying129
  a218 := Try.isAgg129
  z218 := Try.sizeOf129
  v218 := Try.zeroValue129
  t222 := Try.underlying133
  a222 := Try.isAgg133
  z222 := Try.sizeOf133
  v222 := Try.zeroValue133
  t228 := Try.underlying135
  a228 := Try.isAgg135
  z228 := Try.sizeOf135
  v228 := Try.zeroValue135
  t229 := Try.underlying136
  a229 := Try.isAgg136
  z229 := Try.sizeOf136
  v229 := Try.zeroValue136 }
open Go.Sort Go.RowKit in
theorem Try.slices_Sort_int (blk off cap : Nat) (zs : List Int) (w : World) (hH : Holds (Value.int .i64) w blk off zs.toArray) (hblk : blk < w.heap.size) (hsz : zs.length < 4611686018427387904) :
    Calls Try.prog 54 #[.slice (some ⟨blk, off, none⟩) zs.length cap] w fun e w' =>
      e = .returned (.tuple #[]) ∧ ∃ n os, w' = grow (putRow (Value.int .i64) (Sort.ahead w n) blk off (zs.mergeSort fun x y => decide (x ≤ y)).toArray) os := Any.slices_Sort_int Try.lays189 blk off cap zs w hH hblk hsz
open Go.RowKit Go.Sort in
/-- .. and plain. (LAID: no walk: one application.) -/
theorem Try.slices_Sort_int_none (p : Option Addr) (cap : Nat) (w : World) :
    Calls Try.prog 54 #[.slice p 0 cap] w fun e w' => e = .returned (.tuple #[]) ∧ w' = w := Any.slices_Sort_int_none Try.lays189 p cap w
end Go.Proofs
