/-
  DERIVED: THE SHELF's CONTRACTS AT THIS DUMP, IN PLAIN WORDS (tools/lay-plain.mjs out of 'Qxb6613730aShelf.lean', which tools/lay-shelf.mjs wrote): THE SAME DECLARATIONS UNDER THE SAME NAMES: 'import', 'namespace', 'open', 'def', 'theorem' AND NOTHING ELSE: no command of the shelf's: FOR A HAND-IN. Each laying: the table of numbers ('.._ren') and one theorem, a field a fact of the dump's own or the kernel's comparison; each contract: ONE APPLICATION.
-/
import Derived.Shelf.Small.Wraps
import Derived.Shelf.Sort.Plain
import Derived.Test.Qxb6613730aProg
namespace Go.Proofs
open Go.Shelf
def Try.lays122_ren : Go.Shelf.Ren := ⟨fun | 122 => 46 | 215 => 54 | n => n, fun | 3 => 3 | 4 => 4 | n => n, fun | n => n⟩
theorem Try.lays122 : Go.Proofs.Lays.n122 Try.prog Try.lays122_ren := {
  mixed := by kernel_rfl
  f122 := Try.func46.trans (congrArg some (by kernel_rfl))
  f215 := Try.func54.trans (congrArg some (by kernel_rfl))
  t3 := Try.underlying3
  a3 := Try.isAgg3
  z3 := Try.sizeOf3
  v3 := Try.zeroValue3
  t4 := Try.underlying4
  a4 := Try.isAgg4
  z4 := Try.sizeOf4
  v4 := Try.zeroValue4 }
open Go.RowKit in
/-- cmp.Compare at int: "Compare returns -1 if x is less than y, 0 if x equals y, +1 if x is greater than y.": IT RETURNS 'Lib.compareInt x y'; the world is as it was. (LAID: no walk: one application.) -/
theorem Try.cmp_Compare_int (x y : Int) (w : World) :
    Calls Try.prog 46 #[.int .i64 x, .int .i64 y] w fun e w' => e = .returned (.int .i64 (Lib.compareInt x y)) ∧ w' = w := Any.cmp_Compare_int Try.lays122 x y w
def Try.lays189_ren : Go.Shelf.Ren := ⟨fun | 189 => 43 | 125 => 52 | 257 => 51 | 128 => 68 | 129 => 69 | 294 => 59 | 295 => 60 | 296 => 61 | 297 => 62 | 298 => 63 | 299 => 64 | 216 => 65 | 300 => 66 | 301 => 67 | 328 => 80 | 329 => 81 | 330 => 82 | 331 => 83 | 332 => 84 | 215 => 54 | 343 => 93 | n => n, fun | 28 => 43 | 3 => 3 | 46 => 110 | 0 => 0 | 51 => 69 | 53 => 129 | 4 => 4 | 183 => 120 | 182 => 119 | 131 => 125 | 5 => 5 | 9 => 9 | 218 => 139 | 222 => 143 | 228 => 149 | 229 => 150 | n => n, fun | n => n⟩
theorem Try.lays189 : Go.Proofs.Lays.n189 Try.prog Try.lays189_ren := {
  mixed := by kernel_rfl
  f125 := Try.func52.trans (congrArg some (by kernel_rfl))
  f128 := Try.func68.trans (congrArg some (by kernel_rfl))
  f129 := Try.func69.trans (congrArg some (by kernel_rfl))
  f189 := Try.func43.trans (congrArg some (by kernel_rfl))
  f215 := Try.func54.trans (congrArg some (by kernel_rfl))
  f216 := Try.func65.trans (congrArg some (by kernel_rfl))
  f257 := Try.func51.trans (congrArg some (by kernel_rfl))
  f294 := Try.func59.trans (congrArg some (by kernel_rfl))
  f295 := Try.func60.trans (congrArg some (by kernel_rfl))
  f296 := Try.func61.trans (congrArg some (by kernel_rfl))
  f297 := Try.func62.trans (congrArg some (by kernel_rfl))
  f298 := Try.func63.trans (congrArg some (by kernel_rfl))
  f299 := Try.func64.trans (congrArg some (by kernel_rfl))
  f300 := Try.func66.trans (congrArg some (by kernel_rfl))
  f301 := Try.func67.trans (congrArg some (by kernel_rfl))
  f328 := Try.func80.trans (congrArg some (by kernel_rfl))
  f329 := Try.func81.trans (congrArg some (by kernel_rfl))
  f330 := Try.func82.trans (congrArg some (by kernel_rfl))
  f331 := Try.func83.trans (congrArg some (by kernel_rfl))
  f332 := Try.func84.trans (congrArg some (by kernel_rfl))
  f343 := Try.func93.trans (congrArg some (by kernel_rfl))
  t0 := Try.underlying0
  a0 := Try.isAgg0
  z0 := Try.sizeOf0
  v0 := Try.zeroValue0
  t3 := Try.underlying3
  a3 := Try.isAgg3
  z3 := Try.sizeOf3
  v3 := Try.zeroValue3
  t4 := Try.underlying4
  a4 := Try.isAgg4
  z4 := Try.sizeOf4
  v4 := Try.zeroValue4
  t5 := Try.underlying5
  a5 := Try.isAgg5
  z5 := Try.sizeOf5
  v5 := Try.zeroValue5
  t9 := Try.underlying9
  a9 := Try.isAgg9
  z9 := Try.sizeOf9
  v9 := Try.zeroValue9
  t28 := Try.underlying43
  a28 := Try.isAgg43
  z28 := Try.sizeOf43
  v28 := Try.zeroValue43
  t46 := Try.underlying110
  a46 := Try.isAgg110
  z46 := Try.sizeOf110
  v46 := Try.zeroValue110
  t51 := Try.underlying69
  a51 := Try.isAgg69
  z51 := Try.sizeOf69
  v51 := Try.zeroValue69
  t53 := Try.underlying129
  a53 := Try.isAgg129
  z53 := Try.sizeOf129
  v53 := Try.zeroValue129
  t131 := Try.underlying125
  a131 := Try.isAgg125
  z131 := Try.sizeOf125
  v131 := Try.zeroValue125
  t182 := Try.underlying119
  a182 := Try.isAgg119
  z182 := Try.sizeOf119
  v182 := Try.zeroValue119
  t183 := Try.underlying120
  a183 := Try.isAgg120
  z183 := Try.sizeOf120
  v183 := Try.zeroValue120
  t218 := Try.underlying139
  a218 := Try.isAgg139
  z218 := Try.sizeOf139
  v218 := Try.zeroValue139
  t222 := Try.underlying143
  a222 := Try.isAgg143
  z222 := Try.sizeOf143
  v222 := Try.zeroValue143
  t228 := Try.underlying149
  a228 := Try.isAgg149
  z228 := Try.sizeOf149
  v228 := Try.zeroValue149
  t229 := Try.underlying150
  a229 := Try.isAgg150
  z229 := Try.sizeOf150
  v229 := Try.zeroValue150 }
open Go.Sort Go.RowKit in
theorem Try.slices_Sort_int (blk off cap : Nat) (zs : List Int) (w : World) (hH : Holds (Value.int .i64) w blk off zs.toArray) (hblk : blk < w.heap.size) (hsz : zs.length < 4611686018427387904) :
    Calls Try.prog 43 #[.slice (some ⟨blk, off, none⟩) zs.length cap] w fun e w' =>
      e = .returned (.tuple #[]) ∧ ∃ n os, w' = grow (putRow (Value.int .i64) (Sort.ahead w n) blk off (zs.mergeSort fun x y => decide (x ≤ y)).toArray) os := Any.slices_Sort_int Try.lays189 blk off cap zs w hH hblk hsz
end Go.Proofs
