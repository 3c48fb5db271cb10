/-
  How slices.Clone and slices.SortFunc lie in this program (written by the kit's lay-plain.mjs; the numbers of the shelf's contracts against this program's).
-/
import Derived.Shelf.SlLaysE0
import Derived.Shelf.SlLaysF0
import Derived.Test.Qxb6613789aChecked
set_option maxRecDepth 100000
namespace Go.Proofs.Qxb6613789a.Cs
open Go.Shelf
def cloneR_ren : Go.Shelf.Ren := ⟨fun | 41 => 37 | n => n, fun | 22 => 29 | 23 => 27 | 4 => 4 | n => n, fun | n => n⟩
theorem cloneR : Go.Proofs.SlLaysE0.n41 Try.prog cloneR_ren := {
  mixed := by kernel_rfl
  f41 := ⟨Try.f37.name, by decide, Try.func37.trans (congrArg some (by kernel_rfl))⟩
  t4 := Try.underlying4
  a4 := Try.isAgg4
  z4 := Try.sizeOf4
  v4 := Try.zeroValue4
  t22 := Try.underlying29
  a22 := Try.isAgg29
  z22 := Try.sizeOf29
  v22 := Try.zeroValue29 }
def sortR_ren : Go.Shelf.Ren := ⟨fun | 6 => 38 | 15 => 46 | 14 => 45 | 28 => 58 | 29 => 59 | 20 => 50 | 21 => 51 | 22 => 52 | 23 => 53 | 24 => 54 | 25 => 55 | 26 => 56 | 27 => 57 | 46 => 62 | 47 => 63 | 48 => 64 | 49 => 65 | 50 => 66 | 57 => 68 | n => n, fun | 22 => 29 | 24 => 27 | 25 => 88 | 3 => 3 | 39 => 105 | 0 => 0 | 53 => 118 | 55 => 89 | 4 => 4 | 46 => 111 | 45 => 110 | 50 => 115 | 5 => 5 | 9 => 9 | 66 => 122 | 70 => 126 | 76 => 129 | 77 => 130 | n => n, fun | n => n⟩
theorem sortR : Go.Proofs.SlLaysF0.n6 Try.prog sortR_ren := {
  mixed := by kernel_rfl
  f6 := ⟨Try.f38.name, by decide, Try.func38.trans (congrArg some (by kernel_rfl))⟩
  f14 := ⟨Try.f45.name, by decide, Try.func45.trans (congrArg some (by kernel_rfl))⟩
  f15 := Try.func46.trans (congrArg some (by kernel_rfl))
  f20 := ⟨Try.f50.name, by decide, Try.func50.trans (congrArg some (by kernel_rfl))⟩
  f21 := ⟨Try.f51.name, by decide, Try.func51.trans (congrArg some (by kernel_rfl))⟩
  f22 := ⟨Try.f52.name, by decide, Try.func52.trans (congrArg some (by kernel_rfl))⟩
  f23 := ⟨Try.f53.name, by decide, Try.func53.trans (congrArg some (by kernel_rfl))⟩
  f24 := ⟨Try.f54.name, by decide, Try.func54.trans (congrArg some (by kernel_rfl))⟩
  f25 := ⟨Try.f55.name, by decide, Try.func55.trans (congrArg some (by kernel_rfl))⟩
  f26 := ⟨Try.f56.name, by decide, Try.func56.trans (congrArg some (by kernel_rfl))⟩
  f27 := ⟨Try.f57.name, by decide, Try.func57.trans (congrArg some (by kernel_rfl))⟩
  f28 := Try.func58.trans (congrArg some (by kernel_rfl))
  f29 := Try.func59.trans (congrArg some (by kernel_rfl))
  f46 := ⟨Try.f62.name, by decide, Try.func62.trans (congrArg some (by kernel_rfl))⟩
  f47 := Try.func63.trans (congrArg some (by kernel_rfl))
  f48 := Try.func64.trans (congrArg some (by kernel_rfl))
  f49 := ⟨Try.f65.name, by decide, Try.func65.trans (congrArg some (by kernel_rfl))⟩
  f50 := ⟨Try.f66.name, by decide, Try.func66.trans (congrArg some (by kernel_rfl))⟩
  f57 := ⟨Try.f68.name, by decide, Try.func68.trans (congrArg some (by kernel_rfl))⟩
  t0 := Try.underlying0
  a0 := Try.isAgg0
  z0 := Try.sizeOf0
  v0 := Try.zeroValue0
  t3 := Try.underlying3
  a3 := Try.isAgg3
  z3 := Try.sizeOf3
  v3 := Try.zeroValue3
  t4 := Try.underlying4
  a4 := Try.isAgg4
  z4 := Try.sizeOf4
  v4 := Try.zeroValue4
  t5 := Try.underlying5
  a5 := Try.isAgg5
  z5 := Try.sizeOf5
  v5 := Try.zeroValue5
  t9 := Try.underlying9
  a9 := Try.isAgg9
  z9 := Try.sizeOf9
  v9 := Try.zeroValue9
  t22 := Try.underlying29
  a22 := Try.isAgg29
  z22 := Try.sizeOf29
  v22 := Try.zeroValue29
  t25 := Try.underlying88
  a25 := Try.isAgg88
  z25 := Try.sizeOf88
  v25 := Try.zeroValue88
  t39 := Try.underlying105
  a39 := Try.isAgg105
  z39 := Try.sizeOf105
  v39 := Try.zeroValue105
  t45 := Try.underlying110
  a45 := Try.isAgg110
  z45 := Try.sizeOf110
  v45 := Try.zeroValue110
  t46 := Try.underlying111
  a46 := Try.isAgg111
  z46 := Try.sizeOf111
  v46 := Try.zeroValue111
  t50 := Try.underlying115
  a50 := Try.isAgg115
  z50 := Try.sizeOf115
  v50 := Try.zeroValue115
  t53 := Try.underlying118
  a53 := Try.isAgg118
  z53 := Try.sizeOf118
  v53 := Try.zeroValue118
  t55 := Try.underlying89
  a55 := Try.isAgg89
  z55 := Try.sizeOf89
  v55 := Try.zeroValue89
  t66 := Try.underlying122
  a66 := Try.isAgg122
  z66 := Try.sizeOf122
  v66 := Try.zeroValue122
  t70 := Try.underlying126
  a70 := Try.isAgg126
  z70 := Try.sizeOf126
  v70 := Try.zeroValue126
  t76 := Try.underlying129
  a76 := Try.isAgg129
  z76 := Try.sizeOf129
  v76 := Try.zeroValue129
  t77 := Try.underlying130
  a77 := Try.isAgg130
  z77 := Try.sizeOf130
  v77 := Try.zeroValue130 }
end Go.Proofs.Qxb6613789a.Cs
