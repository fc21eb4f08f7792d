/-
  The library's contracts of math/bits.Len32, slices.Sort and slices.Clone, laid at this program by the kit's own tool (lay-plain.mjs), in plain words.
-/
import Derived.Shelf.Small.Bits
import Derived.Shelf.Strconv.Itoa0
import Derived.Shelf.Sort.Plain
import Derived.Ground.Names2Prog
import Derived.Ground.NamesProg
import Derived.Shelf.Slices.Clone
import Derived.Shelf.Slices.In.SortNone
import Derived.Test.YtgkpdffgahadpaaProg
namespace Go.Proofs
open Go.Shelf
def Try.lays128_ren : Go.Shelf.Ren := ⟨fun | 128 => 57 | n => n, fun | 51 => 72 | 3 => 3 | 4 => 4 | 46 => 52 | 5 => 5 | 9 => 9 | n => n, fun | n => n⟩
theorem Try.lays128 : Go.Proofs.Lays.n128 Try.prog Try.lays128_ren := {
  mixed := by kernel_rfl
  f128 := Try.func57.trans (congrArg some (by kernel_rfl))
  t3 := Try.underlying3
  a3 := Try.isAgg3
  z3 := Try.sizeOf3
  v3 := Try.zeroValue3
  t4 := Try.underlying4
  a4 := Try.isAgg4
  z4 := Try.sizeOf4
  v4 := Try.zeroValue4
  t5 := Try.underlying5
  a5 := Try.isAgg5
  z5 := Try.sizeOf5
  v5 := Try.zeroValue5
  t9 := Try.underlying9
  a9 := Try.isAgg9
  z9 := Try.sizeOf9
  v9 := Try.zeroValue9
  t46 := Try.underlying52
  a46 := Try.isAgg52
  z46 := Try.sizeOf52
  v46 := Try.zeroValue52
  t51 := Try.underlying72
  a51 := Try.isAgg72
  z51 := Try.sizeOf72
  v51 := Try.zeroValue72 }
theorem Try.bits_Len32 (x : Int) (w : World) (h0 : 0 ≤ x) (h1 : x ≤ 4294967295) :
    Calls Try.prog 57 #[.int .u32 x] w fun e w' => e = .returned (.int .i64 (Lib.bitLen x.toNat)) ∧ w' = w := Any.bits_Len32 Try.lays128 x w h0 h1
def Try.lays189_ren : Go.Shelf.Ren := ⟨fun | 189 => 30 | 125 => 40 | 257 => 39 | 128 => 57 | 129 => 58 | 294 => 48 | 295 => 49 | 296 => 50 | 297 => 51 | 298 => 52 | 299 => 53 | 216 => 54 | 300 => 55 | 301 => 56 | 328 => 68 | 329 => 69 | 330 => 70 | 331 => 71 | 332 => 72 | 215 => 73 | 343 => 78 | n => n, fun | 28 => 24 | 3 => 3 | 46 => 52 | 0 => 0 | 51 => 72 | 53 => 74 | 4 => 4 | 183 => 64 | 182 => 63 | 131 => 69 | 5 => 5 | 9 => 9 | 218 => 94 | 222 => 97 | 228 => 111 | 229 => 112 | n => n, fun | n => n⟩
theorem Try.lays189 : Go.Proofs.Lays.n189 Try.prog Try.lays189_ren := {
  mixed := by kernel_rfl
  f125 := Try.func40.trans (congrArg some (by kernel_rfl))
  f128 := Try.func57.trans (congrArg some (by kernel_rfl))
  f129 := Try.func58.trans (congrArg some (by kernel_rfl))
  f189 := Try.func30.trans (congrArg some (by kernel_rfl))
  f215 := Try.func73.trans (congrArg some (by kernel_rfl))
  f216 := Try.func54.trans (congrArg some (by kernel_rfl))
  f257 := Try.func39.trans (congrArg some (by kernel_rfl))
  f294 := Try.func48.trans (congrArg some (by kernel_rfl))
  f295 := Try.func49.trans (congrArg some (by kernel_rfl))
  f296 := Try.func50.trans (congrArg some (by kernel_rfl))
  f297 := Try.func51.trans (congrArg some (by kernel_rfl))
  f298 := Try.func52.trans (congrArg some (by kernel_rfl))
  f299 := Try.func53.trans (congrArg some (by kernel_rfl))
  f300 := Try.func55.trans (congrArg some (by kernel_rfl))
  f301 := Try.func56.trans (congrArg some (by kernel_rfl))
  f328 := Try.func68.trans (congrArg some (by kernel_rfl))
  f329 := Try.func69.trans (congrArg some (by kernel_rfl))
  f330 := Try.func70.trans (congrArg some (by kernel_rfl))
  f331 := Try.func71.trans (congrArg some (by kernel_rfl))
  f332 := Try.func72.trans (congrArg some (by kernel_rfl))
  f343 := Try.func78.trans (congrArg some (by kernel_rfl))
  t0 := Try.underlying0
  a0 := Try.isAgg0
  z0 := Try.sizeOf0
  v0 := Try.zeroValue0
  t3 := Try.underlying3
  a3 := Try.isAgg3
  z3 := Try.sizeOf3
  v3 := Try.zeroValue3
  t4 := Try.underlying4
  a4 := Try.isAgg4
  z4 := Try.sizeOf4
  v4 := Try.zeroValue4
  t5 := Try.underlying5
  a5 := Try.isAgg5
  z5 := Try.sizeOf5
  v5 := Try.zeroValue5
  t9 := Try.underlying9
  a9 := Try.isAgg9
  z9 := Try.sizeOf9
  v9 := Try.zeroValue9
  t28 := Try.underlying24
  a28 := Try.isAgg24
  z28 := Try.sizeOf24
  v28 := Try.zeroValue24
  t46 := Try.underlying52
  a46 := Try.isAgg52
  z46 := Try.sizeOf52
  v46 := Try.zeroValue52
  t51 := Try.underlying72
  a51 := Try.isAgg72
  z51 := Try.sizeOf72
  v51 := Try.zeroValue72
  t53 := Try.underlying74
  a53 := Try.isAgg74
  z53 := Try.sizeOf74
  v53 := Try.zeroValue74
  t131 := Try.underlying69
  a131 := Try.isAgg69
  z131 := Try.sizeOf69
  v131 := Try.zeroValue69
  t182 := Try.underlying63
  a182 := Try.isAgg63
  z182 := Try.sizeOf63
  v182 := Try.zeroValue63
  t183 := Try.underlying64
  a183 := Try.isAgg64
  z183 := Try.sizeOf64
  v183 := Try.zeroValue64
  t218 := Try.underlying94
  a218 := Try.isAgg94
  z218 := Try.sizeOf94
  v218 := Try.zeroValue94
  t222 := Try.underlying97
  a222 := Try.isAgg97
  z222 := Try.sizeOf97
  v222 := Try.zeroValue97
  t228 := Try.underlying111
  a228 := Try.isAgg111
  z228 := Try.sizeOf111
  v228 := Try.zeroValue111
  t229 := Try.underlying112
  a229 := Try.isAgg112
  z229 := Try.sizeOf112
  v229 := Try.zeroValue112 }
open Go.Sort Go.RowKit in
theorem Try.slices_Sort_int (blk off cap : Nat) (zs : List Int) (w : World) (hH : Holds (Value.int .i64) w blk off zs.toArray) (hblk : blk < w.heap.size) (hsz : zs.length < 4611686018427387904) :
    Calls Try.prog 30 #[.slice (some ⟨blk, off, none⟩) zs.length cap] w fun e w' =>
      e = .returned (.tuple #[]) ∧ ∃ n os, w' = grow (putRow (Value.int .i64) (Sort.ahead w n) blk off (zs.mergeSort fun x y => decide (x ≤ y)).toArray) os := Any.slices_Sort_int Try.lays189 blk off cap zs w hH hblk hsz
open Go.RowKit Go.Sort in
theorem Try.slices_Sort_int_none (p : Option Addr) (cap : Nat) (w : World) :
    Calls Try.prog 30 #[.slice p 0 cap] w fun e w' => e = .returned (.tuple #[]) ∧ w' = w := Any.slices_Sort_int_none Try.lays189 p cap w
def Try.laysNm215_ren : Go.Shelf.Ren := ⟨fun | 15 => 34 | n => n, fun | 22 => 24 | 3 => 3 | 4 => 4 | n => n, fun | n => n⟩
theorem Try.laysNm215 : Go.Proofs.Lays2.n15 Try.prog Try.laysNm215_ren := {
  mixed := by kernel_rfl
  f15 := Try.func34.trans (congrArg some (by kernel_rfl))
  t3 := Try.underlying3
  a3 := Try.isAgg3
  z3 := Try.sizeOf3
  v3 := Try.zeroValue3
  t4 := Try.underlying4
  a4 := Try.isAgg4
  z4 := Try.sizeOf4
  v4 := Try.zeroValue4
  t22 := Try.underlying24
  a22 := Try.isAgg24
  z22 := Try.sizeOf24
  v22 := Try.zeroValue24
  i3 := by kernel_rfl }
open Go.RowKit Go.Lib in
theorem Try.slices_Clone_int (b off n c : Nat) (zs : List Int) (w : World) (hz : n ≤ zs.length) (hbig : n * 8 ≤ 140737488355328) (hc : ∀ j, j < zs.length → w.cell? ⟨b, off + j, none⟩ = some (.int .i64 (zs.getD j 0))) :
    Calls Try.prog 34 #[.slice (some ⟨b, off, none⟩) n c] w fun e w' => ∃ v', e = .returned v' ∧ w'.ownsRow w.heap.size 3 1 v' n ((zs.take n).map (Value.int .i64)) ∧ v' ≠ .slice none 0 0 ∧ Below w.heap.size w w' := Any.slices_Clone_int Try.laysNm215 b off n c zs w hz hbig hc
end Go.Proofs
