/-
  slices.SortFunc's contract, laid at this program in plain words: written by the kit's own tools (lay-plain.mjs) for this program; the namespace is this seat's.
-/
import Derived.Shelf.SlSortCmp.Whole1
import Derived.Ground.SlsfProg
import Derived.Test.Qxb6602415aProg
namespace Go.Proofs.Qxb6602415a
open Go.Shelf
def sortL_ren : Go.Shelf.Ren := ⟨fun | 6 => 24 | 15 => 29 | 14 => 28 | 28 => 38 | 29 => 39 | 20 => 30 | 21 => 31 | 22 => 32 | 23 => 33 | 24 => 34 | 25 => 35 | 26 => 36 | 27 => 37 | 46 => 40 | 47 => 41 | 48 => 42 | 49 => 43 | 50 => 44 | 57 => 45 | n => n, fun | 22 => 23 | 24 => 3 | 25 => 49 | 3 => 3 | 39 => 54 | 0 => 0 | 53 => 38 | 55 => 65 | 4 => 4 | 46 => 57 | 45 => 56 | 50 => 61 | 5 => 5 | 9 => 9 | 66 => 66 | 70 => 70 | 76 => 72 | 77 => 73 | n => n, fun | n => n⟩
theorem sortL : Go.Proofs.SlLaysF.n6 Try.prog sortL_ren := {
  mixed := by kernel_rfl
  f6 := ⟨Try.f24.name, by decide, Try.func24.trans (congrArg some (by kernel_rfl))⟩
  f14 := ⟨Try.f28.name, by decide, Try.func28.trans (congrArg some (by kernel_rfl))⟩
  f15 := Try.func29.trans (congrArg some (by kernel_rfl))
  f20 := ⟨Try.f30.name, by decide, Try.func30.trans (congrArg some (by kernel_rfl))⟩
  f21 := ⟨Try.f31.name, by decide, Try.func31.trans (congrArg some (by kernel_rfl))⟩
  f22 := ⟨Try.f32.name, by decide, Try.func32.trans (congrArg some (by kernel_rfl))⟩
  f23 := ⟨Try.f33.name, by decide, Try.func33.trans (congrArg some (by kernel_rfl))⟩
  f24 := ⟨Try.f34.name, by decide, Try.func34.trans (congrArg some (by kernel_rfl))⟩
  f25 := ⟨Try.f35.name, by decide, Try.func35.trans (congrArg some (by kernel_rfl))⟩
  f26 := ⟨Try.f36.name, by decide, Try.func36.trans (congrArg some (by kernel_rfl))⟩
  f27 := ⟨Try.f37.name, by decide, Try.func37.trans (congrArg some (by kernel_rfl))⟩
  f28 := Try.func38.trans (congrArg some (by kernel_rfl))
  f29 := Try.func39.trans (congrArg some (by kernel_rfl))
  f46 := ⟨Try.f40.name, by decide, Try.func40.trans (congrArg some (by kernel_rfl))⟩
  f47 := Try.func41.trans (congrArg some (by kernel_rfl))
  f48 := Try.func42.trans (congrArg some (by kernel_rfl))
  f49 := ⟨Try.f43.name, by decide, Try.func43.trans (congrArg some (by kernel_rfl))⟩
  f50 := ⟨Try.f44.name, by decide, Try.func44.trans (congrArg some (by kernel_rfl))⟩
  f57 := ⟨Try.f45.name, by decide, Try.func45.trans (congrArg some (by kernel_rfl))⟩
  t0 := Try.underlying0
  a0 := Try.isAgg0
  z0 := Try.sizeOf0
  v0 := Try.zeroValue0
  t3 := Try.underlying3
  a3 := Try.isAgg3
  z3 := Try.sizeOf3
  v3 := Try.zeroValue3
  t4 := Try.underlying4
  a4 := Try.isAgg4
  z4 := Try.sizeOf4
  v4 := Try.zeroValue4
  t5 := Try.underlying5
  a5 := Try.isAgg5
  z5 := Try.sizeOf5
  v5 := Try.zeroValue5
  t9 := Try.underlying9
  a9 := Try.isAgg9
  z9 := Try.sizeOf9
  v9 := Try.zeroValue9
  t22 := Try.underlying23
  a22 := Try.isAgg23
  z22 := Try.sizeOf23
  v22 := Try.zeroValue23
  a24 := Try.isAgg3
  z24 := Try.sizeOf3
  t25 := Try.underlying49
  a25 := Try.isAgg49
  z25 := Try.sizeOf49
  v25 := Try.zeroValue49
  t39 := Try.underlying54
  a39 := Try.isAgg54
  z39 := Try.sizeOf54
  v39 := Try.zeroValue54
  t45 := Try.underlying56
  a45 := Try.isAgg56
  z45 := Try.sizeOf56
  v45 := Try.zeroValue56
  t46 := Try.underlying57
  a46 := Try.isAgg57
  z46 := Try.sizeOf57
  v46 := Try.zeroValue57
  t50 := Try.underlying61
  a50 := Try.isAgg61
  z50 := Try.sizeOf61
  v50 := Try.zeroValue61
  t53 := Try.underlying38
  a53 := Try.isAgg38
  z53 := Try.sizeOf38
  v53 := Try.zeroValue38
  t55 := Try.underlying65
  a55 := Try.isAgg65
  z55 := Try.sizeOf65
  v55 := Try.zeroValue65
  t66 := Try.underlying66
  a66 := Try.isAgg66
  z66 := Try.sizeOf66
  v66 := Try.zeroValue66
  t70 := Try.underlying70
  a70 := Try.isAgg70
  z70 := Try.sizeOf70
  v70 := Try.zeroValue70
  t76 := Try.underlying72
  a76 := Try.isAgg72
  z76 := Try.sizeOf72
  v76 := Try.zeroValue72
  t77 := Try.underlying73
  a77 := Try.isAgg73
  z77 := Try.sizeOf73
  v77 := Try.zeroValue73 }
end Go.Proofs.Qxb6602415a
