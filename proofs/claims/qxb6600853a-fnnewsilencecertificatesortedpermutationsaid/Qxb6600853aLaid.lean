/-
  slices.SortFunc and slices.Clone at []chain.Silence, laid at this program (the kit's tool lay-plain.mjs wrote the two declarations).
-/
import Derived.Test.Qxb6600853aChecked
import Derived.Shelf.SlLaysF0
import Derived.Shelf.SlLaysE0
namespace Go.Proofs
open Go.Shelf
def Try.sortSil_ren : Go.Shelf.Ren := ⟨fun | 6 => 20 | 15 => 25 | 14 => 24 | 28 => 34 | 29 => 35 | 20 => 26 | 21 => 27 | 22 => 28 | 23 => 29 | 24 => 30 | 25 => 31 | 26 => 32 | 27 => 33 | 46 => 36 | 47 => 37 | 48 => 38 | 49 => 39 | 50 => 40 | 57 => 41 | n => n, fun | 22 => 30 | 24 => 39 | 25 => 47 | 3 => 3 | 39 => 52 | 0 => 0 | 53 => 62 | 55 => 22 | 4 => 4 | 46 => 55 | 45 => 54 | 50 => 59 | 5 => 5 | 9 => 9 | 66 => 64 | 70 => 68 | 76 => 70 | 77 => 71 | n => n, fun | n => n⟩
theorem Try.sortSil : Go.Proofs.SlLaysF0.n6 Try.prog Try.sortSil_ren := {
  mixed := by kernel_rfl
  f6 := ⟨Try.f20.name, by decide, Try.func20.trans (congrArg some (by kernel_rfl))⟩
  f14 := ⟨Try.f24.name, by decide, Try.func24.trans (congrArg some (by kernel_rfl))⟩
  f15 := Try.func25.trans (congrArg some (by kernel_rfl))
  f20 := ⟨Try.f26.name, by decide, Try.func26.trans (congrArg some (by kernel_rfl))⟩
  f21 := ⟨Try.f27.name, by decide, Try.func27.trans (congrArg some (by kernel_rfl))⟩
  f22 := ⟨Try.f28.name, by decide, Try.func28.trans (congrArg some (by kernel_rfl))⟩
  f23 := ⟨Try.f29.name, by decide, Try.func29.trans (congrArg some (by kernel_rfl))⟩
  f24 := ⟨Try.f30.name, by decide, Try.func30.trans (congrArg some (by kernel_rfl))⟩
  f25 := ⟨Try.f31.name, by decide, Try.func31.trans (congrArg some (by kernel_rfl))⟩
  f26 := ⟨Try.f32.name, by decide, Try.func32.trans (congrArg some (by kernel_rfl))⟩
  f27 := ⟨Try.f33.name, by decide, Try.func33.trans (congrArg some (by kernel_rfl))⟩
  f28 := Try.func34.trans (congrArg some (by kernel_rfl))
  f29 := Try.func35.trans (congrArg some (by kernel_rfl))
  f46 := ⟨Try.f36.name, by decide, Try.func36.trans (congrArg some (by kernel_rfl))⟩
  f47 := Try.func37.trans (congrArg some (by kernel_rfl))
  f48 := Try.func38.trans (congrArg some (by kernel_rfl))
  f49 := ⟨Try.f39.name, by decide, Try.func39.trans (congrArg some (by kernel_rfl))⟩
  f50 := ⟨Try.f40.name, by decide, Try.func40.trans (congrArg some (by kernel_rfl))⟩
  f57 := ⟨Try.f41.name, by decide, Try.func41.trans (congrArg some (by kernel_rfl))⟩
  t0 := Try.underlying0
  a0 := Try.isAgg0
  z0 := Try.sizeOf0
  v0 := Try.zeroValue0
  t3 := Try.underlying3
  a3 := Try.isAgg3
  z3 := Try.sizeOf3
  v3 := Try.zeroValue3
  t4 := Try.underlying4
  a4 := Try.isAgg4
  z4 := Try.sizeOf4
  v4 := Try.zeroValue4
  t5 := Try.underlying5
  a5 := Try.isAgg5
  z5 := Try.sizeOf5
  v5 := Try.zeroValue5
  t9 := Try.underlying9
  a9 := Try.isAgg9
  z9 := Try.sizeOf9
  v9 := Try.zeroValue9
  t22 := Try.underlying30
  a22 := Try.isAgg30
  z22 := Try.sizeOf30
  v22 := Try.zeroValue30
  t25 := Try.underlying47
  a25 := Try.isAgg47
  z25 := Try.sizeOf47
  v25 := Try.zeroValue47
  t39 := Try.underlying52
  a39 := Try.isAgg52
  z39 := Try.sizeOf52
  v39 := Try.zeroValue52
  t45 := Try.underlying54
  a45 := Try.isAgg54
  z45 := Try.sizeOf54
  v45 := Try.zeroValue54
  t46 := Try.underlying55
  a46 := Try.isAgg55
  z46 := Try.sizeOf55
  v46 := Try.zeroValue55
  t50 := Try.underlying59
  a50 := Try.isAgg59
  z50 := Try.sizeOf59
  v50 := Try.zeroValue59
  t53 := Try.underlying62
  a53 := Try.isAgg62
  z53 := Try.sizeOf62
  v53 := Try.zeroValue62
  t55 := Try.underlying22
  a55 := Try.isAgg22
  z55 := Try.sizeOf22
  v55 := Try.zeroValue22
  t66 := Try.underlying64
  a66 := Try.isAgg64
  z66 := Try.sizeOf64
  v66 := Try.zeroValue64
  t70 := Try.underlying68
  a70 := Try.isAgg68
  z70 := Try.sizeOf68
  v70 := Try.zeroValue68
  t76 := Try.underlying70
  a76 := Try.isAgg70
  z76 := Try.sizeOf70
  v76 := Try.zeroValue70
  t77 := Try.underlying71
  a77 := Try.isAgg71
  z77 := Try.sizeOf71
  v77 := Try.zeroValue71 }
def Try.cloneSil_ren : Go.Shelf.Ren := ⟨fun | 41 => 19 | n => n, fun | 22 => 30 | 23 => 39 | 4 => 4 | n => n, fun | n => n⟩
theorem Try.cloneSil : Go.Proofs.SlLaysE0.n41 Try.prog Try.cloneSil_ren := {
  mixed := by kernel_rfl
  f41 := ⟨Try.f19.name, by decide, Try.func19.trans (congrArg some (by kernel_rfl))⟩
  t4 := Try.underlying4
  a4 := Try.isAgg4
  z4 := Try.sizeOf4
  v4 := Try.zeroValue4
  t22 := Try.underlying30
  a22 := Try.isAgg30
  z22 := Try.sizeOf30
  v22 := Try.zeroValue30 }
end Go.Proofs
