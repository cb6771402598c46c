/-
  DERIVED: THE SHELF's CONTRACTS AT THIS DUMP, IN PLAIN WORDS (tools/lay-plain.mjs out of 'YbulkbikLay.lean', which tools/lay-shelf.mjs wrote): THE SAME DECLARATIONS UNDER THE SAME NAMES: 'import', 'namespace', 'open', 'def', 'theorem' AND NOTHING ELSE: no command of the shelf's: FOR A HAND-IN. Each laying: the table of numbers ('.._ren') and one theorem, a field a fact of the dump's own or the kernel's comparison; each contract: ONE APPLICATION.
-/
import Derived.Shelf.SlSortCmp.Whole1
import Derived.Ground.SlsfProg
import Derived.Test.YbulkbikProg
namespace Go.Proofs
open Go.Shelf
def Yba.sortF_ren : Go.Shelf.Ren := ⟨fun | 6 => 34 | 15 => 51 | 14 => 50 | 28 => 64 | 29 => 65 | 20 => 56 | 21 => 57 | 22 => 58 | 23 => 59 | 24 => 60 | 25 => 61 | 26 => 62 | 27 => 63 | 46 => 67 | 47 => 68 | 48 => 69 | 49 => 70 | 50 => 71 | 57 => 81 | n => n, fun | 22 => 43 | 24 => 21 | 25 => 107 | 3 => 3 | 39 => 44 | 0 => 0 | 53 => 151 | 55 => 114 | 4 => 4 | 46 => 144 | 45 => 143 | 50 => 148 | 5 => 5 | 9 => 9 | 66 => 154 | 70 => 118 | 76 => 164 | 77 => 165 | n => n, fun | n => n⟩
theorem Yba.sortF : Go.Proofs.SlLaysF.n6 Yba.prog Yba.sortF_ren := {
  mixed := by kernel_rfl
  f6 := ⟨Yba.f34.name, by decide, Yba.func34.trans (congrArg some (by kernel_rfl))⟩
  f14 := ⟨Yba.f50.name, by decide, Yba.func50.trans (congrArg some (by kernel_rfl))⟩
  f15 := Yba.func51.trans (congrArg some (by kernel_rfl))
  f20 := ⟨Yba.f56.name, by decide, Yba.func56.trans (congrArg some (by kernel_rfl))⟩
  f21 := ⟨Yba.f57.name, by decide, Yba.func57.trans (congrArg some (by kernel_rfl))⟩
  f22 := ⟨Yba.f58.name, by decide, Yba.func58.trans (congrArg some (by kernel_rfl))⟩
  f23 := ⟨Yba.f59.name, by decide, Yba.func59.trans (congrArg some (by kernel_rfl))⟩
  f24 := ⟨Yba.f60.name, by decide, Yba.func60.trans (congrArg some (by kernel_rfl))⟩
  f25 := ⟨Yba.f61.name, by decide, Yba.func61.trans (congrArg some (by kernel_rfl))⟩
  f26 := ⟨Yba.f62.name, by decide, Yba.func62.trans (congrArg some (by kernel_rfl))⟩
  f27 := ⟨Yba.f63.name, by decide, Yba.func63.trans (congrArg some (by kernel_rfl))⟩
  f28 := Yba.func64.trans (congrArg some (by kernel_rfl))
  f29 := Yba.func65.trans (congrArg some (by kernel_rfl))
  f46 := ⟨Yba.f67.name, by decide, Yba.func67.trans (congrArg some (by kernel_rfl))⟩
  f47 := Yba.func68.trans (congrArg some (by kernel_rfl))
  f48 := Yba.func69.trans (congrArg some (by kernel_rfl))
  f49 := ⟨Yba.f70.name, by decide, Yba.func70.trans (congrArg some (by kernel_rfl))⟩
  f50 := ⟨Yba.f71.name, by decide, Yba.func71.trans (congrArg some (by kernel_rfl))⟩
  f57 := ⟨Yba.f81.name, by decide, Yba.func81.trans (congrArg some (by kernel_rfl))⟩
  t0 := Yba.underlying0
  a0 := Yba.isAgg0
  z0 := Yba.sizeOf0
  v0 := Yba.zeroValue0
  t3 := Yba.underlying3
  a3 := Yba.isAgg3
  z3 := Yba.sizeOf3
  v3 := Yba.zeroValue3
  t4 := Yba.underlying4
  a4 := Yba.isAgg4
  z4 := Yba.sizeOf4
  v4 := Yba.zeroValue4
  t5 := Yba.underlying5
  a5 := Yba.isAgg5
  z5 := Yba.sizeOf5
  v5 := Yba.zeroValue5
  t9 := Yba.underlying9
  a9 := Yba.isAgg9
  z9 := Yba.sizeOf9
  v9 := Yba.zeroValue9
  t22 := Yba.underlying43
  a22 := Yba.isAgg43
  z22 := Yba.sizeOf43
  v22 := Yba.zeroValue43
  a24 := Yba.isAgg21
  z24 := Yba.sizeOf21
  t25 := Yba.underlying107
  a25 := Yba.isAgg107
  z25 := Yba.sizeOf107
  v25 := Yba.zeroValue107
  t39 := Yba.underlying44
  a39 := Yba.isAgg44
  z39 := Yba.sizeOf44
  v39 := Yba.zeroValue44
  t45 := Yba.underlying143
  a45 := Yba.isAgg143
  z45 := Yba.sizeOf143
  v45 := Yba.zeroValue143
  t46 := Yba.underlying144
  a46 := Yba.isAgg144
  z46 := Yba.sizeOf144
  v46 := Yba.zeroValue144
  t50 := Yba.underlying148
  a50 := Yba.isAgg148
  z50 := Yba.sizeOf148
  v50 := Yba.zeroValue148
  t53 := Yba.underlying151
  a53 := Yba.isAgg151
  z53 := Yba.sizeOf151
  v53 := Yba.zeroValue151
  t55 := Yba.underlying114
  a55 := Yba.isAgg114
  z55 := Yba.sizeOf114
  v55 := Yba.zeroValue114
  t66 := Yba.underlying154
  a66 := Yba.isAgg154
  z66 := Yba.sizeOf154
  v66 := Yba.zeroValue154
  t70 := Yba.underlying118
  a70 := Yba.isAgg118
  z70 := Yba.sizeOf118
  v70 := Yba.zeroValue118
  t76 := Yba.underlying164
  a76 := Yba.isAgg164
  z76 := Yba.sizeOf164
  v76 := Yba.zeroValue164
  t77 := Yba.underlying165
  a77 := Yba.isAgg165
  z77 := Yba.sizeOf165
  v77 := Yba.zeroValue165 }
end Go.Proofs
