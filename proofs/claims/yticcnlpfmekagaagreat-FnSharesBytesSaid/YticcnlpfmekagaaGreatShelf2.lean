/- The sort of shares by a comparison and the search among topics with partitions, laid at this program: the plain text that the kit program writes. -/
import Derived.Shelf.SlGeneric
import Derived.Shelf.SlSortCmp.SmallK
import Derived.Shelf.SlicesQ.Contains
import Derived.Ground.SlsfProg
import Derived.Ground.SlgqProg
import Derived.Test.YticcnlpfmekagaaGreatProg
namespace Go.Proofs
open Go.Shelf
set_option linter.unusedVariables false
set_option linter.unusedSimpArgs false
def Tryz.laysSortShr_ren : Go.Shelf.Ren := ⟨fun | 6 => 65 | 15 => 78 | 14 => 83 | 28 => 104 | 29 => 105 | 20 => 107 | 21 => 108 | 22 => 109 | 23 => 110 | 24 => 111 | 25 => 112 | 26 => 113 | 27 => 114 | 46 => 126 | 47 => 121 | 48 => 122 | 49 => 127 | 50 => 128 | 57 => 135 | n => n, fun | 22 => 23 | 24 => 33 | 25 => 129 | 3 => 3 | 39 => 151 | 0 => 0 | 53 => 103 | 55 => 98 | 4 => 4 | 46 => 185 | 45 => 184 | 50 => 190 | 5 => 5 | 9 => 9 | 66 => 235 | 70 => 239 | 76 => 260 | 77 => 261 | n => n, fun | n => n⟩
theorem Tryz.laysSortShr : Go.Proofs.SlLaysF0.n6 Tryz.prog Tryz.laysSortShr_ren := {
  mixed := by kernel_rfl
  f6 := ⟨Tryz.f65.name, by decide, Tryz.func65.trans (congrArg some (by kernel_rfl))⟩
  f14 := ⟨Tryz.f83.name, by decide, Tryz.func83.trans (congrArg some (by kernel_rfl))⟩
  f15 := Tryz.func78.trans (congrArg some (by kernel_rfl))
  f20 := ⟨Tryz.f107.name, by decide, Tryz.func107.trans (congrArg some (by kernel_rfl))⟩
  f21 := ⟨Tryz.f108.name, by decide, Tryz.func108.trans (congrArg some (by kernel_rfl))⟩
  f22 := ⟨Tryz.f109.name, by decide, Tryz.func109.trans (congrArg some (by kernel_rfl))⟩
  f23 := ⟨Tryz.f110.name, by decide, Tryz.func110.trans (congrArg some (by kernel_rfl))⟩
  f24 := ⟨Tryz.f111.name, by decide, Tryz.func111.trans (congrArg some (by kernel_rfl))⟩
  f25 := ⟨Tryz.f112.name, by decide, Tryz.func112.trans (congrArg some (by kernel_rfl))⟩
  f26 := ⟨Tryz.f113.name, by decide, Tryz.func113.trans (congrArg some (by kernel_rfl))⟩
  f27 := ⟨Tryz.f114.name, by decide, Tryz.func114.trans (congrArg some (by kernel_rfl))⟩
  f28 := Tryz.func104.trans (congrArg some (by kernel_rfl))
  f29 := Tryz.func105.trans (congrArg some (by kernel_rfl))
  f46 := ⟨Tryz.f126.name, by decide, Tryz.func126.trans (congrArg some (by kernel_rfl))⟩
  f47 := Tryz.func121.trans (congrArg some (by kernel_rfl))
  f48 := Tryz.func122.trans (congrArg some (by kernel_rfl))
  f49 := ⟨Tryz.f127.name, by decide, Tryz.func127.trans (congrArg some (by kernel_rfl))⟩
  f50 := ⟨Tryz.f128.name, by decide, Tryz.func128.trans (congrArg some (by kernel_rfl))⟩
  f57 := ⟨Tryz.f135.name, by decide, Tryz.func135.trans (congrArg some (by kernel_rfl))⟩
  t0 := Tryz.underlying0
  a0 := Tryz.isAgg0
  z0 := Tryz.sizeOf0
  v0 := Tryz.zeroValue0
  t3 := Tryz.underlying3
  a3 := Tryz.isAgg3
  z3 := Tryz.sizeOf3
  v3 := Tryz.zeroValue3
  t4 := Tryz.underlying4
  a4 := Tryz.isAgg4
  z4 := Tryz.sizeOf4
  v4 := Tryz.zeroValue4
  t5 := Tryz.underlying5
  a5 := Tryz.isAgg5
  z5 := Tryz.sizeOf5
  v5 := Tryz.zeroValue5
  t9 := Tryz.underlying9
  a9 := Tryz.isAgg9
  z9 := Tryz.sizeOf9
  v9 := Tryz.zeroValue9
  t22 := Tryz.underlying23
  a22 := Tryz.isAgg23
  z22 := Tryz.sizeOf23
  v22 := Tryz.zeroValue23
  t25 := Tryz.underlying129
  a25 := Tryz.isAgg129
  z25 := Tryz.sizeOf129
  v25 := Tryz.zeroValue129
  t39 := Tryz.underlying151
  a39 := Tryz.isAgg151
  z39 := Tryz.sizeOf151
  v39 := Tryz.zeroValue151
  t45 := Tryz.underlying184
  a45 := Tryz.isAgg184
  z45 := Tryz.sizeOf184
  v45 := Tryz.zeroValue184
  t46 := Tryz.underlying185
  a46 := Tryz.isAgg185
  z46 := Tryz.sizeOf185
  v46 := Tryz.zeroValue185
  t50 := Tryz.underlying190
  a50 := Tryz.isAgg190
  z50 := Tryz.sizeOf190
  v50 := Tryz.zeroValue190
  t53 := Tryz.underlying103
  a53 := Tryz.isAgg103
  z53 := Tryz.sizeOf103
  v53 := Tryz.zeroValue103
  t55 := Tryz.underlying98
  a55 := Tryz.isAgg98
  z55 := Tryz.sizeOf98
  v55 := Tryz.zeroValue98
  t66 := Tryz.underlying235
  a66 := Tryz.isAgg235
  z66 := Tryz.sizeOf235
  v66 := Tryz.zeroValue235
  t70 := Tryz.underlying239
  a70 := Tryz.isAgg239
  z70 := Tryz.sizeOf239
  v70 := Tryz.zeroValue239
  t76 := Tryz.underlying260
  a76 := Tryz.isAgg260
  z76 := Tryz.sizeOf260
  v76 := Tryz.zeroValue260
  t77 := Tryz.underlying261
  a77 := Tryz.isAgg261
  z77 := Tryz.sizeOf261
  v77 := Tryz.zeroValue261 }
def Tryz.laysContTp_ren : Go.Shelf.Ren := ⟨fun | 7 => 272 | 6 => 276 | n => n, fun | 22 => 375 | 24 => 384 | 4 => 4 | 0 => 0 | 3 => 3 | n => n, fun | n => n⟩
theorem Tryz.laysContTp : Go.Proofs.SlLaysQ.n7 Tryz.prog Tryz.laysContTp_ren := {
  mixed := by kernel_rfl
  f6 := ⟨Tryz.f276.name, by decide, Tryz.func276.trans (congrArg some (by kernel_rfl))⟩
  f7 := ⟨Tryz.f272.name, by decide, Tryz.func272.trans (congrArg some (by kernel_rfl))⟩
  t0 := Tryz.underlying0
  a0 := Tryz.isAgg0
  z0 := Tryz.sizeOf0
  v0 := Tryz.zeroValue0
  t3 := Tryz.underlying3
  a3 := Tryz.isAgg3
  z3 := Tryz.sizeOf3
  v3 := Tryz.zeroValue3
  t4 := Tryz.underlying4
  a4 := Tryz.isAgg4
  z4 := Tryz.sizeOf4
  v4 := Tryz.zeroValue4
  t22 := Tryz.underlying375
  a22 := Tryz.isAgg375
  z22 := Tryz.sizeOf375
  v22 := Tryz.zeroValue375 }
end Go.Proofs
