/-
  The library's contract of slices.SortFunc, laid at this program by the kit's own tool (lay-plain.mjs), in plain words.
-/
import Derived.Shelf.Small.Bits
import Derived.Shelf.Strconv.Itoa0
import Derived.Shelf.Sort.Plain
import Derived.Ground.Names2Prog
import Derived.Ground.NamesProg
import Derived.Ground.SlsfProg
import Derived.Shelf.Slices.Clone
import Derived.Shelf.Slices.In.SortNone
import Derived.Shelf.SlSortCmp.WholeK
import Derived.Shelf.SlSortCmp.NoneTotal
import Derived.Test.YtgkpdffgahadpaaProg
namespace Go.Proofs
open Go.Shelf
set_option maxRecDepth 1000000 in
def Try.sortFn_ren : Go.Shelf.Ren := ⟨fun | 6 => 60 | 15 => 40 | 14 => 74 | 28 => 57 | 29 => 58 | 20 => 79 | 21 => 80 | 22 => 81 | 23 => 82 | 24 => 83 | 25 => 84 | 26 => 85 | 27 => 86 | 46 => 88 | 47 => 69 | 48 => 70 | 49 => 89 | 50 => 90 | 57 => 91 | n => n, fun | 22 => 82 | 24 => 78 | 25 => 86 | 3 => 3 | 39 => 52 | 0 => 0 | 53 => 72 | 55 => 74 | 4 => 4 | 46 => 64 | 45 => 63 | 50 => 69 | 5 => 5 | 9 => 9 | 66 => 94 | 70 => 97 | 76 => 111 | 77 => 112 | n => n, fun | n => n⟩
set_option maxRecDepth 1000000 in
theorem Try.sortFn : Go.Proofs.SlLaysF0.n6 Try.prog Try.sortFn_ren := {
  mixed := by kernel_rfl
  f6 := ⟨Try.f60.name, by decide, Try.func60.trans (congrArg some (by kernel_rfl))⟩
  f14 := ⟨Try.f74.name, by decide, Try.func74.trans (congrArg some (by kernel_rfl))⟩
  f15 := Try.func40.trans (congrArg some (by kernel_rfl))
  f20 := ⟨Try.f79.name, by decide, Try.func79.trans (congrArg some (by kernel_rfl))⟩
  f21 := ⟨Try.f80.name, by decide, Try.func80.trans (congrArg some (by kernel_rfl))⟩
  f22 := ⟨Try.f81.name, by decide, Try.func81.trans (congrArg some (by kernel_rfl))⟩
  f23 := ⟨Try.f82.name, by decide, Try.func82.trans (congrArg some (by kernel_rfl))⟩
  f24 := ⟨Try.f83.name, by decide, Try.func83.trans (congrArg some (by kernel_rfl))⟩
  f25 := ⟨Try.f84.name, by decide, Try.func84.trans (congrArg some (by kernel_rfl))⟩
  f26 := ⟨Try.f85.name, by decide, Try.func85.trans (congrArg some (by kernel_rfl))⟩
  f27 := ⟨Try.f86.name, by decide, Try.func86.trans (congrArg some (by kernel_rfl))⟩
  f28 := Try.func57.trans (congrArg some (by kernel_rfl))
  f29 := Try.func58.trans (congrArg some (by kernel_rfl))
  f46 := ⟨Try.f88.name, by decide, Try.func88.trans (congrArg some (by kernel_rfl))⟩
  f47 := Try.func69.trans (congrArg some (by kernel_rfl))
  f48 := Try.func70.trans (congrArg some (by kernel_rfl))
  f49 := ⟨Try.f89.name, by decide, Try.func89.trans (congrArg some (by kernel_rfl))⟩
  f50 := ⟨Try.f90.name, by decide, Try.func90.trans (congrArg some (by kernel_rfl))⟩
  f57 := ⟨Try.f91.name, by decide, Try.func91.trans (congrArg some (by kernel_rfl))⟩
  t0 := Try.underlying0
  a0 := Try.isAgg0
  z0 := Try.sizeOf0
  v0 := Try.zeroValue0
  t3 := Try.underlying3
  a3 := Try.isAgg3
  z3 := Try.sizeOf3
  v3 := Try.zeroValue3
  t4 := Try.underlying4
  a4 := Try.isAgg4
  z4 := Try.sizeOf4
  v4 := Try.zeroValue4
  t5 := Try.underlying5
  a5 := Try.isAgg5
  z5 := Try.sizeOf5
  v5 := Try.zeroValue5
  t9 := Try.underlying9
  a9 := Try.isAgg9
  z9 := Try.sizeOf9
  v9 := Try.zeroValue9
  t22 := Try.underlying82
  a22 := Try.isAgg82
  z22 := Try.sizeOf82
  v22 := Try.zeroValue82
  t25 := Try.underlying86
  a25 := Try.isAgg86
  z25 := Try.sizeOf86
  v25 := Try.zeroValue86
  t39 := Try.underlying52
  a39 := Try.isAgg52
  z39 := Try.sizeOf52
  v39 := Try.zeroValue52
  t45 := Try.underlying63
  a45 := Try.isAgg63
  z45 := Try.sizeOf63
  v45 := Try.zeroValue63
  t46 := Try.underlying64
  a46 := Try.isAgg64
  z46 := Try.sizeOf64
  v46 := Try.zeroValue64
  t50 := Try.underlying69
  a50 := Try.isAgg69
  z50 := Try.sizeOf69
  v50 := Try.zeroValue69
  t53 := Try.underlying72
  a53 := Try.isAgg72
  z53 := Try.sizeOf72
  v53 := Try.zeroValue72
  t55 := Try.underlying74
  a55 := Try.isAgg74
  z55 := Try.sizeOf74
  v55 := Try.zeroValue74
  t66 := Try.underlying94
  a66 := Try.isAgg94
  z66 := Try.sizeOf94
  v66 := Try.zeroValue94
  t70 := Try.underlying97
  a70 := Try.isAgg97
  z70 := Try.sizeOf97
  v70 := Try.zeroValue97
  t76 := Try.underlying111
  a76 := Try.isAgg111
  z76 := Try.sizeOf111
  v76 := Try.zeroValue111
  t77 := Try.underlying112
  a77 := Try.isAgg112
  z77 := Try.sizeOf112
  v77 := Try.zeroValue112 }
end Go.Proofs
