/-
  slices.SortFunc of impl.Label at this dump (tools/lay-plain.mjs), in plain words
-/
import Derived.Shelf.SlSortCmp.SmallK
import Derived.Shelf.SlGeneric
import Derived.Ground.SlsfProg
import Derived.Test.YtdeejmkjhmpabaaGreatDoorProg
namespace Go.Proofs
open Go.Shelf
def Tryz.sortLb_ren : Go.Shelf.Ren := ⟨fun | 6 => 63 | 15 => 76 | 14 => 89 | 28 => 107 | 29 => 108 | 20 => 124 | 21 => 125 | 22 => 126 | 23 => 127 | 24 => 128 | 25 => 129 | 26 => 130 | 27 => 131 | 46 => 161 | 47 => 142 | 48 => 143 | 49 => 162 | 50 => 163 | 57 => 188 | n => n, fun | 22 => 33 | 24 => 59 | 25 => 116 | 3 => 3 | 39 => 132 | 0 => 0 | 53 => 162 | 55 => 38 | 4 => 4 | 46 => 154 | 45 => 153 | 50 => 159 | 5 => 5 | 9 => 9 | 66 => 198 | 70 => 202 | 76 => 220 | 77 => 221 | n => n, fun | n => n⟩
theorem Tryz.sortLb : Go.Proofs.SlLaysF0.n6 Tryz.prog Tryz.sortLb_ren := {
  mixed := by kernel_rfl
  f6 := ⟨Tryz.f63.name, by decide, Tryz.func63.trans (congrArg some (by kernel_rfl))⟩
  f14 := ⟨Tryz.f89.name, by decide, Tryz.func89.trans (congrArg some (by kernel_rfl))⟩
  f15 := Tryz.func76.trans (congrArg some (by kernel_rfl))
  f20 := ⟨Tryz.f124.name, by decide, Tryz.func124.trans (congrArg some (by kernel_rfl))⟩
  f21 := ⟨Tryz.f125.name, by decide, Tryz.func125.trans (congrArg some (by kernel_rfl))⟩
  f22 := ⟨Tryz.f126.name, by decide, Tryz.func126.trans (congrArg some (by kernel_rfl))⟩
  f23 := ⟨Tryz.f127.name, by decide, Tryz.func127.trans (congrArg some (by kernel_rfl))⟩
  f24 := ⟨Tryz.f128.name, by decide, Tryz.func128.trans (congrArg some (by kernel_rfl))⟩
  f25 := ⟨Tryz.f129.name, by decide, Tryz.func129.trans (congrArg some (by kernel_rfl))⟩
  f26 := ⟨Tryz.f130.name, by decide, Tryz.func130.trans (congrArg some (by kernel_rfl))⟩
  f27 := ⟨Tryz.f131.name, by decide, Tryz.func131.trans (congrArg some (by kernel_rfl))⟩
  f28 := Tryz.func107.trans (congrArg some (by kernel_rfl))
  f29 := Tryz.func108.trans (congrArg some (by kernel_rfl))
  f46 := ⟨Tryz.f161.name, by decide, Tryz.func161.trans (congrArg some (by kernel_rfl))⟩
  f47 := Tryz.func142.trans (congrArg some (by kernel_rfl))
  f48 := Tryz.func143.trans (congrArg some (by kernel_rfl))
  f49 := ⟨Tryz.f162.name, by decide, Tryz.func162.trans (congrArg some (by kernel_rfl))⟩
  f50 := ⟨Tryz.f163.name, by decide, Tryz.func163.trans (congrArg some (by kernel_rfl))⟩
  f57 := ⟨Tryz.f188.name, by decide, Tryz.func188.trans (congrArg some (by kernel_rfl))⟩
  t0 := Tryz.underlying0
  a0 := Tryz.isAgg0
  z0 := Tryz.sizeOf0
  v0 := Tryz.zeroValue0
  t3 := Tryz.underlying3
  a3 := Tryz.isAgg3
  z3 := Tryz.sizeOf3
  v3 := Tryz.zeroValue3
  t4 := Tryz.underlying4
  a4 := Tryz.isAgg4
  z4 := Tryz.sizeOf4
  v4 := Tryz.zeroValue4
  t5 := Tryz.underlying5
  a5 := Tryz.isAgg5
  z5 := Tryz.sizeOf5
  v5 := Tryz.zeroValue5
  t9 := Tryz.underlying9
  a9 := Tryz.isAgg9
  z9 := Tryz.sizeOf9
  v9 := Tryz.zeroValue9
  t22 := Tryz.underlying33
  a22 := Tryz.isAgg33
  z22 := Tryz.sizeOf33
  v22 := Tryz.zeroValue33
  t25 := Tryz.underlying116
  a25 := Tryz.isAgg116
  z25 := Tryz.sizeOf116
  v25 := Tryz.zeroValue116
  t39 := Tryz.underlying132
  a39 := Tryz.isAgg132
  z39 := Tryz.sizeOf132
  v39 := Tryz.zeroValue132
  t45 := Tryz.underlying153
  a45 := Tryz.isAgg153
  z45 := Tryz.sizeOf153
  v45 := Tryz.zeroValue153
  t46 := Tryz.underlying154
  a46 := Tryz.isAgg154
  z46 := Tryz.sizeOf154
  v46 := Tryz.zeroValue154
  t50 := Tryz.underlying159
  a50 := Tryz.isAgg159
  z50 := Tryz.sizeOf159
  v50 := Tryz.zeroValue159
  t53 := Tryz.underlying162
  a53 := Tryz.isAgg162
  z53 := Tryz.sizeOf162
  v53 := Tryz.zeroValue162
  t55 := Tryz.underlying38
  a55 := Tryz.isAgg38
  z55 := Tryz.sizeOf38
  v55 := Tryz.zeroValue38
  t66 := Tryz.underlying198
  a66 := Tryz.isAgg198
  z66 := Tryz.sizeOf198
  v66 := Tryz.zeroValue198
  t70 := Tryz.underlying202
  a70 := Tryz.isAgg202
  z70 := Tryz.sizeOf202
  v70 := Tryz.zeroValue202
  t76 := Tryz.underlying220
  a76 := Tryz.isAgg220
  z76 := Tryz.sizeOf220
  v76 := Tryz.zeroValue220
  t77 := Tryz.underlying221
  a77 := Tryz.isAgg221
  z77 := Tryz.sizeOf221
  v77 := Tryz.zeroValue221 }
end Go.Proofs
