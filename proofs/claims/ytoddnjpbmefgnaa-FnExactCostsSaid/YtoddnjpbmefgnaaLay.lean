/-
  The library's sort of a slice by a comparison, laid at this program: the numbers of its functions and types, in plain words (printed by the kit's lay-plain).
-/
import Derived.Test.YtoddnjpbmefgnaaSampW
import Derived.Shelf.SlSortCmp.NoneTotal
namespace Go.Proofs
open Go.Shelf
def Ytoddnjpbmefgnaa.sortL_ren : Go.Shelf.Ren := ⟨fun | 6 => 78 | 15 => 92 | 14 => 91 | 28 => 102 | 29 => 103 | 20 => 94 | 21 => 95 | 22 => 96 | 23 => 97 | 24 => 98 | 25 => 99 | 26 => 100 | 27 => 101 | 46 => 105 | 47 => 106 | 48 => 107 | 49 => 108 | 50 => 109 | 57 => 111 | n => n, fun | 22 => 90 | 24 => 93 | 25 => 126 | 3 => 3 | 39 => 129 | 0 => 0 | 53 => 139 | 55 => 23 | 4 => 4 | 46 => 161 | 45 => 160 | 50 => 165 | 5 => 5 | 9 => 9 | 66 => 169 | 70 => 173 | 76 => 175 | 77 => 176 | n => n, fun | n => n⟩
set_option maxRecDepth 100000 in
theorem Ytoddnjpbmefgnaa.sortL : Go.Proofs.SlLaysF0.n6 Try.prog Ytoddnjpbmefgnaa.sortL_ren := {
  mixed := by kernel_rfl
  f6 := ⟨Try.f78.name, by decide, Try.func78.trans (congrArg some (by kernel_rfl))⟩
  f14 := ⟨Try.f91.name, by decide, Try.func91.trans (congrArg some (by kernel_rfl))⟩
  f15 := Try.func92.trans (congrArg some (by kernel_rfl))
  f20 := ⟨Try.f94.name, by decide, Try.func94.trans (congrArg some (by kernel_rfl))⟩
  f21 := ⟨Try.f95.name, by decide, Try.func95.trans (congrArg some (by kernel_rfl))⟩
  f22 := ⟨Try.f96.name, by decide, Try.func96.trans (congrArg some (by kernel_rfl))⟩
  f23 := ⟨Try.f97.name, by decide, Try.func97.trans (congrArg some (by kernel_rfl))⟩
  f24 := ⟨Try.f98.name, by decide, Try.func98.trans (congrArg some (by kernel_rfl))⟩
  f25 := ⟨Try.f99.name, by decide, Try.func99.trans (congrArg some (by kernel_rfl))⟩
  f26 := ⟨Try.f100.name, by decide, Try.func100.trans (congrArg some (by kernel_rfl))⟩
  f27 := ⟨Try.f101.name, by decide, Try.func101.trans (congrArg some (by kernel_rfl))⟩
  f28 := Try.func102.trans (congrArg some (by kernel_rfl))
  f29 := Try.func103.trans (congrArg some (by kernel_rfl))
  f46 := ⟨Try.f105.name, by decide, Try.func105.trans (congrArg some (by kernel_rfl))⟩
  f47 := Try.func106.trans (congrArg some (by kernel_rfl))
  f48 := Try.func107.trans (congrArg some (by kernel_rfl))
  f49 := ⟨Try.f108.name, by decide, Try.func108.trans (congrArg some (by kernel_rfl))⟩
  f50 := ⟨Try.f109.name, by decide, Try.func109.trans (congrArg some (by kernel_rfl))⟩
  f57 := ⟨Try.f111.name, by decide, Try.func111.trans (congrArg some (by kernel_rfl))⟩
  t0 := Try.underlying0
  a0 := Try.isAgg0
  z0 := Try.sizeOf0
  v0 := Try.zeroValue0
  t3 := Try.underlying3
  a3 := Try.isAgg3
  z3 := Try.sizeOf3
  v3 := Try.zeroValue3
  t4 := Try.underlying4
  a4 := Try.isAgg4
  z4 := Try.sizeOf4
  v4 := Try.zeroValue4
  t5 := Try.underlying5
  a5 := Try.isAgg5
  z5 := Try.sizeOf5
  v5 := Try.zeroValue5
  t9 := Try.underlying9
  a9 := Try.isAgg9
  z9 := Try.sizeOf9
  v9 := Try.zeroValue9
  t22 := Try.underlying90
  a22 := Try.isAgg90
  z22 := Try.sizeOf90
  v22 := Try.zeroValue90
  t25 := Try.underlying126
  a25 := Try.isAgg126
  z25 := Try.sizeOf126
  v25 := Try.zeroValue126
  t39 := Try.underlying129
  a39 := Try.isAgg129
  z39 := Try.sizeOf129
  v39 := Try.zeroValue129
  t45 := Try.underlying160
  a45 := Try.isAgg160
  z45 := Try.sizeOf160
  v45 := Try.zeroValue160
  t46 := Try.underlying161
  a46 := Try.isAgg161
  z46 := Try.sizeOf161
  v46 := Try.zeroValue161
  t50 := Try.underlying165
  a50 := Try.isAgg165
  z50 := Try.sizeOf165
  v50 := Try.zeroValue165
  t53 := Try.underlying139
  a53 := Try.isAgg139
  z53 := Try.sizeOf139
  v53 := Try.zeroValue139
  t55 := Try.underlying23
  a55 := Try.isAgg23
  z55 := Try.sizeOf23
  v55 := Try.zeroValue23
  t66 := Try.underlying169
  a66 := Try.isAgg169
  z66 := Try.sizeOf169
  v66 := Try.zeroValue169
  t70 := Try.underlying173
  a70 := Try.isAgg173
  z70 := Try.sizeOf173
  v70 := Try.zeroValue173
  t76 := Try.underlying175
  a76 := Try.isAgg175
  z76 := Try.sizeOf175
  v76 := Try.zeroValue175
  t77 := Try.underlying176
  a77 := Try.isAgg176
  z77 := Try.sizeOf176
  v77 := Try.zeroValue176 }
end Go.Proofs
