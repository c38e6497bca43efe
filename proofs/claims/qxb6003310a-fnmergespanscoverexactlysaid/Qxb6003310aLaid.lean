/-
  slices.SortFunc of the kit's shelf, laid at this program's function 24 (written by the kit's tools lay-shelf and lay-plain, then renamed).
-/
import Derived.Shelf.SlSortCmp.WholeK
import Derived.Test.Qxb6003310aProg
set_option maxRecDepth 1000000
namespace Go.Proofs.Qxb6003310a.Mrg
open Go.Shelf
def sortIv_ren : Go.Shelf.Ren := ⟨fun | 6 => 24 | 15 => 28 | 14 => 27 | 28 => 38 | 29 => 39 | 20 => 30 | 21 => 31 | 22 => 32 | 23 => 33 | 24 => 34 | 25 => 35 | 26 => 36 | 27 => 37 | 46 => 40 | 47 => 41 | 48 => 42 | 49 => 43 | 50 => 44 | 57 => 45 | n => n, fun | 22 => 25 | 24 => 30 | 25 => 38 | 3 => 3 | 39 => 42 | 0 => 0 | 53 => 53 | 55 => 55 | 4 => 4 | 46 => 46 | 45 => 45 | 50 => 50 | 5 => 5 | 9 => 9 | 66 => 56 | 70 => 60 | 76 => 62 | 77 => 63 | n => n, fun | n => n⟩
theorem sortIv : Go.Proofs.SlLaysF0.n6 Try.prog sortIv_ren := {
  mixed := by kernel_rfl
  f6 := ⟨Try.f24.name, by decide, Try.func24.trans (congrArg some (by kernel_rfl))⟩
  f14 := ⟨Try.f27.name, by decide, Try.func27.trans (congrArg some (by kernel_rfl))⟩
  f15 := Try.func28.trans (congrArg some (by kernel_rfl))
  f20 := ⟨Try.f30.name, by decide, Try.func30.trans (congrArg some (by kernel_rfl))⟩
  f21 := ⟨Try.f31.name, by decide, Try.func31.trans (congrArg some (by kernel_rfl))⟩
  f22 := ⟨Try.f32.name, by decide, Try.func32.trans (congrArg some (by kernel_rfl))⟩
  f23 := ⟨Try.f33.name, by decide, Try.func33.trans (congrArg some (by kernel_rfl))⟩
  f24 := ⟨Try.f34.name, by decide, Try.func34.trans (congrArg some (by kernel_rfl))⟩
  f25 := ⟨Try.f35.name, by decide, Try.func35.trans (congrArg some (by kernel_rfl))⟩
  f26 := ⟨Try.f36.name, by decide, Try.func36.trans (congrArg some (by kernel_rfl))⟩
  f27 := ⟨Try.f37.name, by decide, Try.func37.trans (congrArg some (by kernel_rfl))⟩
  f28 := Try.func38.trans (congrArg some (by kernel_rfl))
  f29 := Try.func39.trans (congrArg some (by kernel_rfl))
  f46 := ⟨Try.f40.name, by decide, Try.func40.trans (congrArg some (by kernel_rfl))⟩
  f47 := Try.func41.trans (congrArg some (by kernel_rfl))
  f48 := Try.func42.trans (congrArg some (by kernel_rfl))
  f49 := ⟨Try.f43.name, by decide, Try.func43.trans (congrArg some (by kernel_rfl))⟩
  f50 := ⟨Try.f44.name, by decide, Try.func44.trans (congrArg some (by kernel_rfl))⟩
  f57 := ⟨Try.f45.name, by decide, Try.func45.trans (congrArg some (by kernel_rfl))⟩
  t0 := Try.underlying0
  a0 := Try.isAgg0
  z0 := Try.sizeOf0
  v0 := Try.zeroValue0
  t3 := Try.underlying3
  a3 := Try.isAgg3
  z3 := Try.sizeOf3
  v3 := Try.zeroValue3
  t4 := Try.underlying4
  a4 := Try.isAgg4
  z4 := Try.sizeOf4
  v4 := Try.zeroValue4
  t5 := Try.underlying5
  a5 := Try.isAgg5
  z5 := Try.sizeOf5
  v5 := Try.zeroValue5
  t9 := Try.underlying9
  a9 := Try.isAgg9
  z9 := Try.sizeOf9
  v9 := Try.zeroValue9
  t22 := Try.underlying25
  a22 := Try.isAgg25
  z22 := Try.sizeOf25
  v22 := Try.zeroValue25
  t25 := Try.underlying38
  a25 := Try.isAgg38
  z25 := Try.sizeOf38
  v25 := Try.zeroValue38
  t39 := Try.underlying42
  a39 := Try.isAgg42
  z39 := Try.sizeOf42
  v39 := Try.zeroValue42
  t45 := Try.underlying45
  a45 := Try.isAgg45
  z45 := Try.sizeOf45
  v45 := Try.zeroValue45
  t46 := Try.underlying46
  a46 := Try.isAgg46
  z46 := Try.sizeOf46
  v46 := Try.zeroValue46
  t50 := Try.underlying50
  a50 := Try.isAgg50
  z50 := Try.sizeOf50
  v50 := Try.zeroValue50
  t53 := Try.underlying53
  a53 := Try.isAgg53
  z53 := Try.sizeOf53
  v53 := Try.zeroValue53
  t55 := Try.underlying55
  a55 := Try.isAgg55
  z55 := Try.sizeOf55
  v55 := Try.zeroValue55
  t66 := Try.underlying56
  a66 := Try.isAgg56
  z66 := Try.sizeOf56
  v66 := Try.zeroValue56
  t70 := Try.underlying60
  a70 := Try.isAgg60
  z70 := Try.sizeOf60
  v70 := Try.zeroValue60
  t76 := Try.underlying62
  a76 := Try.isAgg62
  z76 := Try.sizeOf62
  v76 := Try.zeroValue62
  t77 := Try.underlying63
  a77 := Try.isAgg63
  z77 := Try.sizeOf63
  v77 := Try.zeroValue63 }
end Go.Proofs.Qxb6003310a.Mrg
