/-
  DERIVED: THE SHELF's CONTRACTS AT THIS DUMP, IN PLAIN WORDS (tools/lay-plain.mjs out of 'YbulkahlaSortLay.lean', which tools/lay-shelf.mjs wrote): THE SAME DECLARATIONS UNDER THE SAME NAMES: 'import', 'namespace', 'open', 'def', 'theorem' AND NOTHING ELSE: no command of the shelf's: FOR A HAND-IN. Each laying: the table of numbers ('.._ren') and one theorem, a field a fact of the dump's own or the kernel's comparison; each contract: ONE APPLICATION.
-/
import Derived.Shelf.SlSortCmp.NoneTotal
import Derived.Ground.SlsfProg
import Derived.Test.YbulkahlaProg
namespace Go.Proofs
open Go.Shelf
def Yba.sortI_ren : Go.Shelf.Ren := ⟨fun | 6 => 50 | 15 => 55 | 14 => 54 | 28 => 65 | 29 => 66 | 20 => 57 | 21 => 58 | 22 => 59 | 23 => 60 | 24 => 61 | 25 => 62 | 26 => 63 | 27 => 64 | 46 => 67 | 47 => 68 | 48 => 69 | 49 => 70 | 50 => 71 | 57 => 72 | n => n, fun | 22 => 76 | 24 => 3 | 25 => 108 | 3 => 3 | 39 => 115 | 0 => 0 | 53 => 125 | 55 => 93 | 4 => 4 | 46 => 118 | 45 => 117 | 50 => 122 | 5 => 5 | 9 => 9 | 66 => 127 | 70 => 131 | 76 => 133 | 77 => 134 | n => n, fun | n => n⟩
theorem Yba.sortI : Go.Proofs.SlLaysF.n6 Yba.prog Yba.sortI_ren := {
  mixed := by kernel_rfl
  f6 := ⟨Yba.f50.name, by decide, Yba.func50.trans (congrArg some (by kernel_rfl))⟩
  f14 := ⟨Yba.f54.name, by decide, Yba.func54.trans (congrArg some (by kernel_rfl))⟩
  f15 := Yba.func55.trans (congrArg some (by kernel_rfl))
  f20 := ⟨Yba.f57.name, by decide, Yba.func57.trans (congrArg some (by kernel_rfl))⟩
  f21 := ⟨Yba.f58.name, by decide, Yba.func58.trans (congrArg some (by kernel_rfl))⟩
  f22 := ⟨Yba.f59.name, by decide, Yba.func59.trans (congrArg some (by kernel_rfl))⟩
  f23 := ⟨Yba.f60.name, by decide, Yba.func60.trans (congrArg some (by kernel_rfl))⟩
  f24 := ⟨Yba.f61.name, by decide, Yba.func61.trans (congrArg some (by kernel_rfl))⟩
  f25 := ⟨Yba.f62.name, by decide, Yba.func62.trans (congrArg some (by kernel_rfl))⟩
  f26 := ⟨Yba.f63.name, by decide, Yba.func63.trans (congrArg some (by kernel_rfl))⟩
  f27 := ⟨Yba.f64.name, by decide, Yba.func64.trans (congrArg some (by kernel_rfl))⟩
  f28 := Yba.func65.trans (congrArg some (by kernel_rfl))
  f29 := Yba.func66.trans (congrArg some (by kernel_rfl))
  f46 := ⟨Yba.f67.name, by decide, Yba.func67.trans (congrArg some (by kernel_rfl))⟩
  f47 := Yba.func68.trans (congrArg some (by kernel_rfl))
  f48 := Yba.func69.trans (congrArg some (by kernel_rfl))
  f49 := ⟨Yba.f70.name, by decide, Yba.func70.trans (congrArg some (by kernel_rfl))⟩
  f50 := ⟨Yba.f71.name, by decide, Yba.func71.trans (congrArg some (by kernel_rfl))⟩
  f57 := ⟨Yba.f72.name, by decide, Yba.func72.trans (congrArg some (by kernel_rfl))⟩
  t0 := Yba.underlying0
  a0 := Yba.isAgg0
  z0 := Yba.sizeOf0
  v0 := Yba.zeroValue0
  t3 := Yba.underlying3
  a3 := Yba.isAgg3
  z3 := Yba.sizeOf3
  v3 := Yba.zeroValue3
  t4 := Yba.underlying4
  a4 := Yba.isAgg4
  z4 := Yba.sizeOf4
  v4 := Yba.zeroValue4
  t5 := Yba.underlying5
  a5 := Yba.isAgg5
  z5 := Yba.sizeOf5
  v5 := Yba.zeroValue5
  t9 := Yba.underlying9
  a9 := Yba.isAgg9
  z9 := Yba.sizeOf9
  v9 := Yba.zeroValue9
  t22 := Yba.underlying76
  a22 := Yba.isAgg76
  z22 := Yba.sizeOf76
  v22 := Yba.zeroValue76
  a24 := Yba.isAgg3
  z24 := Yba.sizeOf3
  t25 := Yba.underlying108
  a25 := Yba.isAgg108
  z25 := Yba.sizeOf108
  v25 := Yba.zeroValue108
  t39 := Yba.underlying115
  a39 := Yba.isAgg115
  z39 := Yba.sizeOf115
  v39 := Yba.zeroValue115
  t45 := Yba.underlying117
  a45 := Yba.isAgg117
  z45 := Yba.sizeOf117
  v45 := Yba.zeroValue117
  t46 := Yba.underlying118
  a46 := Yba.isAgg118
  z46 := Yba.sizeOf118
  v46 := Yba.zeroValue118
  t50 := Yba.underlying122
  a50 := Yba.isAgg122
  z50 := Yba.sizeOf122
  v50 := Yba.zeroValue122
  t53 := Yba.underlying125
  a53 := Yba.isAgg125
  z53 := Yba.sizeOf125
  v53 := Yba.zeroValue125
  t55 := Yba.underlying93
  a55 := Yba.isAgg93
  z55 := Yba.sizeOf93
  v55 := Yba.zeroValue93
  t66 := Yba.underlying127
  a66 := Yba.isAgg127
  z66 := Yba.sizeOf127
  v66 := Yba.zeroValue127
  t70 := Yba.underlying131
  a70 := Yba.isAgg131
  z70 := Yba.sizeOf131
  v70 := Yba.zeroValue131
  t76 := Yba.underlying133
  a76 := Yba.isAgg133
  z76 := Yba.sizeOf133
  v76 := Yba.zeroValue133
  t77 := Yba.underlying134
  a77 := Yba.isAgg134
  z77 := Yba.sizeOf134
  v77 := Yba.zeroValue134 }
end Go.Proofs
