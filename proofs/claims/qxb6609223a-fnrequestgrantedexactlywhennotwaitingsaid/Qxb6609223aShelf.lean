/-
  The shelf's laying of slices.SortFunc at this program (written by the kit's tool).
-/
import Derived.Shelf.SlSortCmp.NoneTotal
import Derived.Shelf.SlGeneric
import Derived.Test.Qxb6609223aProg
namespace Go.Proofs
open Go.Shelf
def Try.sortEnt_ren : Go.Shelf.Ren := ⟨fun | 6 => 67 | 15 => 77 | 14 => 76 | 28 => 87 | 29 => 88 | 20 => 79 | 21 => 80 | 22 => 81 | 23 => 82 | 24 => 83 | 25 => 84 | 26 => 85 | 27 => 86 | 46 => 89 | 47 => 90 | 48 => 91 | 49 => 92 | 50 => 93 | 57 => 94 | n => n, fun | 22 => 106 | 24 => 77 | 25 => 121 | 3 => 3 | 39 => 130 | 0 => 0 | 53 => 141 | 55 => 59 | 4 => 4 | 46 => 134 | 45 => 133 | 50 => 138 | 5 => 5 | 9 => 9 | 66 => 143 | 70 => 147 | 76 => 149 | 77 => 150 | n => n, fun | n => n⟩
theorem Try.sortEnt : Go.Proofs.SlLaysF0.n6 Try.prog Try.sortEnt_ren := {
  mixed := by kernel_rfl
  f6 := ⟨Try.f67.name, by decide, Try.func67.trans (congrArg some (by kernel_rfl))⟩
  f14 := ⟨Try.f76.name, by decide, Try.func76.trans (congrArg some (by kernel_rfl))⟩
  f15 := Try.func77.trans (congrArg some (by kernel_rfl))
  f20 := ⟨Try.f79.name, by decide, Try.func79.trans (congrArg some (by kernel_rfl))⟩
  f21 := ⟨Try.f80.name, by decide, Try.func80.trans (congrArg some (by kernel_rfl))⟩
  f22 := ⟨Try.f81.name, by decide, Try.func81.trans (congrArg some (by kernel_rfl))⟩
  f23 := ⟨Try.f82.name, by decide, Try.func82.trans (congrArg some (by kernel_rfl))⟩
  f24 := ⟨Try.f83.name, by decide, Try.func83.trans (congrArg some (by kernel_rfl))⟩
  f25 := ⟨Try.f84.name, by decide, Try.func84.trans (congrArg some (by kernel_rfl))⟩
  f26 := ⟨Try.f85.name, by decide, Try.func85.trans (congrArg some (by kernel_rfl))⟩
  f27 := ⟨Try.f86.name, by decide, Try.func86.trans (congrArg some (by kernel_rfl))⟩
  f28 := Try.func87.trans (congrArg some (by kernel_rfl))
  f29 := Try.func88.trans (congrArg some (by kernel_rfl))
  f46 := ⟨Try.f89.name, by decide, Try.func89.trans (congrArg some (by kernel_rfl))⟩
  f47 := Try.func90.trans (congrArg some (by kernel_rfl))
  f48 := Try.func91.trans (congrArg some (by kernel_rfl))
  f49 := ⟨Try.f92.name, by decide, Try.func92.trans (congrArg some (by kernel_rfl))⟩
  f50 := ⟨Try.f93.name, by decide, Try.func93.trans (congrArg some (by kernel_rfl))⟩
  f57 := ⟨Try.f94.name, by decide, Try.func94.trans (congrArg some (by kernel_rfl))⟩
  t0 := Try.underlying0
  a0 := Try.isAgg0
  z0 := Try.sizeOf0
  v0 := Try.zeroValue0
  t3 := Try.underlying3
  a3 := Try.isAgg3
  z3 := Try.sizeOf3
  v3 := Try.zeroValue3
  t4 := Try.underlying4
  a4 := Try.isAgg4
  z4 := Try.sizeOf4
  v4 := Try.zeroValue4
  t5 := Try.underlying5
  a5 := Try.isAgg5
  z5 := Try.sizeOf5
  v5 := Try.zeroValue5
  t9 := Try.underlying9
  a9 := Try.isAgg9
  z9 := Try.sizeOf9
  v9 := Try.zeroValue9
  t22 := Try.underlying106
  a22 := Try.isAgg106
  z22 := Try.sizeOf106
  v22 := Try.zeroValue106
  t25 := Try.underlying121
  a25 := Try.isAgg121
  z25 := Try.sizeOf121
  v25 := Try.zeroValue121
  t39 := Try.underlying130
  a39 := Try.isAgg130
  z39 := Try.sizeOf130
  v39 := Try.zeroValue130
  t45 := Try.underlying133
  a45 := Try.isAgg133
  z45 := Try.sizeOf133
  v45 := Try.zeroValue133
  t46 := Try.underlying134
  a46 := Try.isAgg134
  z46 := Try.sizeOf134
  v46 := Try.zeroValue134
  t50 := Try.underlying138
  a50 := Try.isAgg138
  z50 := Try.sizeOf138
  v50 := Try.zeroValue138
  t53 := Try.underlying141
  a53 := Try.isAgg141
  z53 := Try.sizeOf141
  v53 := Try.zeroValue141
  t55 := Try.underlying59
  a55 := Try.isAgg59
  z55 := Try.sizeOf59
  v55 := Try.zeroValue59
  t66 := Try.underlying143
  a66 := Try.isAgg143
  z66 := Try.sizeOf143
  v66 := Try.zeroValue143
  t70 := Try.underlying147
  a70 := Try.isAgg147
  z70 := Try.sizeOf147
  v70 := Try.zeroValue147
  t76 := Try.underlying149
  a76 := Try.isAgg149
  z76 := Try.sizeOf149
  v76 := Try.zeroValue149
  t77 := Try.underlying150
  a77 := Try.isAgg150
  z77 := Try.sizeOf150
  v77 := Try.zeroValue150 }
end Go.Proofs
