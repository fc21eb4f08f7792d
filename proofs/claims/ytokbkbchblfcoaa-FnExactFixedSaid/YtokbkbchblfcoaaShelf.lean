/-
  The library's contracts of math/bits.Len32, slices.Sort and slices.Clone, laid at this program by the kit's own tool (lay-plain.mjs), in plain words.
-/
import Derived.Shelf.Small.Bits
import Derived.Shelf.Strconv.Itoa0
import Derived.Shelf.Sort.Plain
import Derived.Ground.Names2Prog
import Derived.Ground.NamesProg
import Derived.Shelf.Slices.Clone
import Derived.Shelf.Slices.In.SortNone
import Derived.Test.YtokbkbchblfcoaaProg
namespace Go.Proofs
open Go.Shelf
def Try.lays128_ren : Go.Shelf.Ren := ⟨fun | 128 => 61 | n => n, fun | 51 => 80 | 3 => 3 | 4 => 4 | 46 => 73 | 5 => 5 | 9 => 9 | n => n, fun | n => n⟩
theorem Try.lays128 : Go.Proofs.Lays.n128 Try.prog Try.lays128_ren := {
  mixed := by kernel_rfl
  f128 := Try.func61.trans (congrArg some (by kernel_rfl))
  t3 := Try.underlying3
  a3 := Try.isAgg3
  z3 := Try.sizeOf3
  v3 := Try.zeroValue3
  t4 := Try.underlying4
  a4 := Try.isAgg4
  z4 := Try.sizeOf4
  v4 := Try.zeroValue4
  t5 := Try.underlying5
  a5 := Try.isAgg5
  z5 := Try.sizeOf5
  v5 := Try.zeroValue5
  t9 := Try.underlying9
  a9 := Try.isAgg9
  z9 := Try.sizeOf9
  v9 := Try.zeroValue9
  t46 := Try.underlying73
  a46 := Try.isAgg73
  z46 := Try.sizeOf73
  v46 := Try.zeroValue73
  t51 := Try.underlying80
  a51 := Try.isAgg80
  z51 := Try.sizeOf80
  v51 := Try.zeroValue80 }
theorem Try.bits_Len32 (x : Int) (w : World) (h0 : 0 ≤ x) (h1 : x ≤ 4294967295) :
    Calls Try.prog 61 #[.int .u32 x] w fun e w' => e = .returned (.int .i64 (Lib.bitLen x.toNat)) ∧ w' = w := Any.bits_Len32 Try.lays128 x w h0 h1
def Try.lays189_ren : Go.Shelf.Ren := ⟨fun | 189 => 43 | 125 => 56 | 257 => 55 | 128 => 61 | 129 => 74 | 294 => 65 | 295 => 66 | 296 => 67 | 297 => 68 | 298 => 69 | 299 => 70 | 216 => 71 | 300 => 72 | 301 => 73 | 328 => 76 | 329 => 77 | 330 => 78 | 331 => 79 | 332 => 80 | 215 => 81 | 343 => 90 | n => n, fun | 28 => 26 | 3 => 3 | 46 => 73 | 0 => 0 | 51 => 80 | 53 => 82 | 4 => 4 | 183 => 100 | 182 => 99 | 131 => 105 | 5 => 5 | 9 => 9 | 218 => 109 | 222 => 112 | 228 => 119 | 229 => 120 | n => n, fun | n => n⟩
theorem Try.lays189 : Go.Proofs.Lays.n189 Try.prog Try.lays189_ren := {
  mixed := by kernel_rfl
  f125 := Try.func56.trans (congrArg some (by kernel_rfl))
  f128 := Try.func61.trans (congrArg some (by kernel_rfl))
  f129 := Try.func74.trans (congrArg some (by kernel_rfl))
  f189 := Try.func43.trans (congrArg some (by kernel_rfl))
  f215 := Try.func81.trans (congrArg some (by kernel_rfl))
  f216 := Try.func71.trans (congrArg some (by kernel_rfl))
  f257 := Try.func55.trans (congrArg some (by kernel_rfl))
  f294 := Try.func65.trans (congrArg some (by kernel_rfl))
  f295 := Try.func66.trans (congrArg some (by kernel_rfl))
  f296 := Try.func67.trans (congrArg some (by kernel_rfl))
  f297 := Try.func68.trans (congrArg some (by kernel_rfl))
  f298 := Try.func69.trans (congrArg some (by kernel_rfl))
  f299 := Try.func70.trans (congrArg some (by kernel_rfl))
  f300 := Try.func72.trans (congrArg some (by kernel_rfl))
  f301 := Try.func73.trans (congrArg some (by kernel_rfl))
  f328 := Try.func76.trans (congrArg some (by kernel_rfl))
  f329 := Try.func77.trans (congrArg some (by kernel_rfl))
  f330 := Try.func78.trans (congrArg some (by kernel_rfl))
  f331 := Try.func79.trans (congrArg some (by kernel_rfl))
  f332 := Try.func80.trans (congrArg some (by kernel_rfl))
  f343 := Try.func90.trans (congrArg some (by kernel_rfl))
  t0 := Try.underlying0
  a0 := Try.isAgg0
  z0 := Try.sizeOf0
  v0 := Try.zeroValue0
  t3 := Try.underlying3
  a3 := Try.isAgg3
  z3 := Try.sizeOf3
  v3 := Try.zeroValue3
  t4 := Try.underlying4
  a4 := Try.isAgg4
  z4 := Try.sizeOf4
  v4 := Try.zeroValue4
  t5 := Try.underlying5
  a5 := Try.isAgg5
  z5 := Try.sizeOf5
  v5 := Try.zeroValue5
  t9 := Try.underlying9
  a9 := Try.isAgg9
  z9 := Try.sizeOf9
  v9 := Try.zeroValue9
  t28 := Try.underlying26
  a28 := Try.isAgg26
  z28 := Try.sizeOf26
  v28 := Try.zeroValue26
  t46 := Try.underlying73
  a46 := Try.isAgg73
  z46 := Try.sizeOf73
  v46 := Try.zeroValue73
  t51 := Try.underlying80
  a51 := Try.isAgg80
  z51 := Try.sizeOf80
  v51 := Try.zeroValue80
  t53 := Try.underlying82
  a53 := Try.isAgg82
  z53 := Try.sizeOf82
  v53 := Try.zeroValue82
  t131 := Try.underlying105
  a131 := Try.isAgg105
  z131 := Try.sizeOf105
  v131 := Try.zeroValue105
  t182 := Try.underlying99
  a182 := Try.isAgg99
  z182 := Try.sizeOf99
  v182 := Try.zeroValue99
  t183 := Try.underlying100
  a183 := Try.isAgg100
  z183 := Try.sizeOf100
  v183 := Try.zeroValue100
  t218 := Try.underlying109
  a218 := Try.isAgg109
  z218 := Try.sizeOf109
  v218 := Try.zeroValue109
  t222 := Try.underlying112
  a222 := Try.isAgg112
  z222 := Try.sizeOf112
  v222 := Try.zeroValue112
  t228 := Try.underlying119
  a228 := Try.isAgg119
  z228 := Try.sizeOf119
  v228 := Try.zeroValue119
  t229 := Try.underlying120
  a229 := Try.isAgg120
  z229 := Try.sizeOf120
  v229 := Try.zeroValue120 }
open Go.Sort Go.RowKit in
theorem Try.slices_Sort_int (blk off cap : Nat) (zs : List Int) (w : World) (hH : Holds (Value.int .i64) w blk off zs.toArray) (hblk : blk < w.heap.size) (hsz : zs.length < 4611686018427387904) :
    Calls Try.prog 43 #[.slice (some ⟨blk, off, none⟩) zs.length cap] w fun e w' =>
      e = .returned (.tuple #[]) ∧ ∃ n os, w' = grow (putRow (Value.int .i64) (Sort.ahead w n) blk off (zs.mergeSort fun x y => decide (x ≤ y)).toArray) os := Any.slices_Sort_int Try.lays189 blk off cap zs w hH hblk hsz
open Go.RowKit Go.Sort in
theorem Try.slices_Sort_int_none (p : Option Addr) (cap : Nat) (w : World) :
    Calls Try.prog 43 #[.slice p 0 cap] w fun e w' => e = .returned (.tuple #[]) ∧ w' = w := Any.slices_Sort_int_none Try.lays189 p cap w
def Try.laysNm215_ren : Go.Shelf.Ren := ⟨fun | 15 => 41 | n => n, fun | 22 => 26 | 3 => 3 | 4 => 4 | n => n, fun | n => n⟩
theorem Try.laysNm215 : Go.Proofs.Lays2.n15 Try.prog Try.laysNm215_ren := {
  mixed := by kernel_rfl
  f15 := Try.func41.trans (congrArg some (by kernel_rfl))
  t3 := Try.underlying3
  a3 := Try.isAgg3
  z3 := Try.sizeOf3
  v3 := Try.zeroValue3
  t4 := Try.underlying4
  a4 := Try.isAgg4
  z4 := Try.sizeOf4
  v4 := Try.zeroValue4
  t22 := Try.underlying26
  a22 := Try.isAgg26
  z22 := Try.sizeOf26
  v22 := Try.zeroValue26
  i3 := by kernel_rfl }
open Go.RowKit Go.Lib in
theorem Try.slices_Clone_int (b off n c : Nat) (zs : List Int) (w : World) (hz : n ≤ zs.length) (hbig : n * 8 ≤ 140737488355328) (hc : ∀ j, j < zs.length → w.cell? ⟨b, off + j, none⟩ = some (.int .i64 (zs.getD j 0))) :
    Calls Try.prog 41 #[.slice (some ⟨b, off, none⟩) n c] w fun e w' => ∃ v', e = .returned v' ∧ w'.ownsRow w.heap.size 3 1 v' n ((zs.take n).map (Value.int .i64)) ∧ v' ≠ .slice none 0 0 ∧ Below w.heap.size w w' := Any.slices_Clone_int Try.laysNm215 b off n c zs w hz hbig hc
end Go.Proofs
