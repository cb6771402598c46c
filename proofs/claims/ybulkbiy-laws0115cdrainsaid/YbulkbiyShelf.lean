/-
  DERIVED: THE SHELF's CONTRACTS AT THIS DUMP, IN PLAIN WORDS (tools/lay-plain.mjs out of 'YbulkbiyLay.lean', which tools/lay-shelf.mjs wrote): THE SAME DECLARATIONS UNDER THE SAME NAMES: 'import', 'namespace', 'open', 'def', 'theorem' AND NOTHING ELSE: no command of the shelf's: FOR A HAND-IN. Each laying: the table of numbers ('.._ren') and one theorem, a field a fact of the dump's own or the kernel's comparison; each contract: ONE APPLICATION.
-/
import Derived.Shelf.SlSortCmp.Xorshift
import Derived.Shelf.SlicesE.Compact
import Derived.Shelf.SlicesE.Equal
import Derived.Shelf.SlicesE.Clone
import Derived.Shelf.SlicesE.Index
import Derived.Shelf.SlicesE.Delete
import Derived.Ground.SlsfProg
import Derived.Ground.SlgnProg
import Derived.Test.YbulkbiyProg
namespace Go.Proofs
open Go.Shelf
def Yba.npoL_ren : Go.Shelf.Ren := ⟨fun | 47 => 37 | 15 => 21 | 28 => 34 | 29 => 35 | n => n, fun | 3 => 3 | 39 => 45 | 53 => 58 | 55 => 23 | 4 => 4 | 5 => 5 | 9 => 9 | n => n, fun | n => n⟩
theorem Yba.npoL : Go.Proofs.SlLaysF0.n47 Yba.prog Yba.npoL_ren := {
  mixed := by kernel_rfl
  f15 := Yba.func21.trans (congrArg some (by kernel_rfl))
  f28 := Yba.func34.trans (congrArg some (by kernel_rfl))
  f29 := Yba.func35.trans (congrArg some (by kernel_rfl))
  f47 := Yba.func37.trans (congrArg some (by kernel_rfl))
  t3 := Yba.underlying3
  a3 := Yba.isAgg3
  z3 := Yba.sizeOf3
  v3 := Yba.zeroValue3
  t4 := Yba.underlying4
  a4 := Yba.isAgg4
  z4 := Yba.sizeOf4
  v4 := Yba.zeroValue4
  t5 := Yba.underlying5
  a5 := Yba.isAgg5
  z5 := Yba.sizeOf5
  v5 := Yba.zeroValue5
  t9 := Yba.underlying9
  a9 := Yba.isAgg9
  z9 := Yba.sizeOf9
  v9 := Yba.zeroValue9
  t39 := Yba.underlying45
  a39 := Yba.isAgg45
  z39 := Yba.sizeOf45
  v39 := Yba.zeroValue45
  t53 := Yba.underlying58
  a53 := Yba.isAgg58
  z53 := Yba.sizeOf58
  v53 := Yba.zeroValue58
  t55 := Yba.underlying23
  a55 := Yba.isAgg23
  z55 := Yba.sizeOf23
  v55 := Yba.zeroValue23 }
def Yba.xorL_ren : Go.Shelf.Ren := ⟨fun | 48 => 38 | n => n, fun | 76 => 65 | 55 => 23 | 0 => 0 | 66 => 59 | 39 => 45 | n => n, fun | n => n⟩
theorem Yba.xorL : Go.Proofs.SlLaysF0.n48 Yba.prog Yba.xorL_ren := {
  mixed := by kernel_rfl
  f48 := Yba.func38.trans (congrArg some (by kernel_rfl))
  t0 := Yba.underlying0
  a0 := Yba.isAgg0
  z0 := Yba.sizeOf0
  v0 := Yba.zeroValue0
  t39 := Yba.underlying45
  a39 := Yba.isAgg45
  z39 := Yba.sizeOf45
  v39 := Yba.zeroValue45
  t55 := Yba.underlying23
  a55 := Yba.isAgg23
  z55 := Yba.sizeOf23
  v55 := Yba.zeroValue23
  t66 := Yba.underlying59
  a66 := Yba.isAgg59
  z66 := Yba.sizeOf59
  v66 := Yba.zeroValue59
  t76 := Yba.underlying65
  a76 := Yba.isAgg65
  z76 := Yba.sizeOf65
  v76 := Yba.zeroValue65 }
def Yba.bitsL_ren : Go.Shelf.Ren := ⟨fun | 15 => 21 | 28 => 34 | 29 => 35 | n => n, fun | 39 => 45 | 3 => 3 | 53 => 58 | 55 => 23 | 4 => 4 | 5 => 5 | 9 => 9 | n => n, fun | n => n⟩
theorem Yba.bitsL : Go.Proofs.SlLaysF0.n15 Yba.prog Yba.bitsL_ren := {
  mixed := by kernel_rfl
  f15 := Yba.func21.trans (congrArg some (by kernel_rfl))
  f28 := Yba.func34.trans (congrArg some (by kernel_rfl))
  f29 := Yba.func35.trans (congrArg some (by kernel_rfl))
  t3 := Yba.underlying3
  a3 := Yba.isAgg3
  z3 := Yba.sizeOf3
  v3 := Yba.zeroValue3
  t4 := Yba.underlying4
  a4 := Yba.isAgg4
  z4 := Yba.sizeOf4
  v4 := Yba.zeroValue4
  t5 := Yba.underlying5
  a5 := Yba.isAgg5
  z5 := Yba.sizeOf5
  v5 := Yba.zeroValue5
  t9 := Yba.underlying9
  a9 := Yba.isAgg9
  z9 := Yba.sizeOf9
  v9 := Yba.zeroValue9
  t39 := Yba.underlying45
  a39 := Yba.isAgg45
  z39 := Yba.sizeOf45
  v39 := Yba.zeroValue45
  t53 := Yba.underlying58
  a53 := Yba.isAgg58
  z53 := Yba.sizeOf58
  v53 := Yba.zeroValue58
  t55 := Yba.underlying23
  a55 := Yba.isAgg23
  z55 := Yba.sizeOf23
  v55 := Yba.zeroValue23 }
def Yba.compactL_ren : Go.Shelf.Ren := ⟨fun | 43 => 15 | n => n, fun | 22 => 22 | 23 => 23 | 3 => 3 | 4 => 4 | 0 => 0 | n => n, fun | n => n⟩
theorem Yba.compactL : Go.Proofs.SlLaysE.n43 Yba.prog Yba.compactL_ren := {
  mixed := by kernel_rfl
  f43 := ⟨Yba.f15.name, by decide, Yba.func15.trans (congrArg some (by kernel_rfl))⟩
  t0 := Yba.underlying0
  a0 := Yba.isAgg0
  z0 := Yba.sizeOf0
  v0 := Yba.zeroValue0
  t3 := Yba.underlying3
  a3 := Yba.isAgg3
  z3 := Yba.sizeOf3
  v3 := Yba.zeroValue3
  t4 := Yba.underlying4
  a4 := Yba.isAgg4
  z4 := Yba.sizeOf4
  v4 := Yba.zeroValue4
  t22 := Yba.underlying22
  a22 := Yba.isAgg22
  z22 := Yba.sizeOf22
  v22 := Yba.zeroValue22
  a23 := Yba.isAgg23
  z23 := Yba.sizeOf23 }
def Yba.cloneL_ren : Go.Shelf.Ren := ⟨fun | 41 => 13 | n => n, fun | 22 => 22 | 23 => 23 | 4 => 4 | n => n, fun | n => n⟩
theorem Yba.cloneL : Go.Proofs.SlLaysE0.n41 Yba.prog Yba.cloneL_ren := {
  mixed := by kernel_rfl
  f41 := ⟨Yba.f13.name, by decide, Yba.func13.trans (congrArg some (by kernel_rfl))⟩
  t4 := Yba.underlying4
  a4 := Yba.isAgg4
  z4 := Yba.sizeOf4
  v4 := Yba.zeroValue4
  t22 := Yba.underlying22
  a22 := Yba.isAgg22
  z22 := Yba.sizeOf22
  v22 := Yba.zeroValue22 }
def Yba.equalL_ren : Go.Shelf.Ren := ⟨fun | 33 => 19 | n => n, fun | 22 => 22 | 23 => 23 | 4 => 4 | 3 => 3 | 0 => 0 | n => n, fun | n => n⟩
theorem Yba.equalL : Go.Proofs.SlLaysE.n33 Yba.prog Yba.equalL_ren := {
  mixed := by kernel_rfl
  f33 := ⟨Yba.f19.name, by decide, Yba.func19.trans (congrArg some (by kernel_rfl))⟩
  t0 := Yba.underlying0
  a0 := Yba.isAgg0
  z0 := Yba.sizeOf0
  v0 := Yba.zeroValue0
  t3 := Yba.underlying3
  a3 := Yba.isAgg3
  z3 := Yba.sizeOf3
  v3 := Yba.zeroValue3
  t4 := Yba.underlying4
  a4 := Yba.isAgg4
  z4 := Yba.sizeOf4
  v4 := Yba.zeroValue4
  t22 := Yba.underlying22
  a22 := Yba.isAgg22
  z22 := Yba.sizeOf22
  v22 := Yba.zeroValue22
  a23 := Yba.isAgg23
  z23 := Yba.sizeOf23 }
def Yba.indexL_ren : Go.Shelf.Ren := ⟨fun | 29 => 9 | n => n, fun | 22 => 22 | 23 => 23 | 3 => 3 | 0 => 0 | 4 => 4 | n => n, fun | n => n⟩
theorem Yba.indexL : Go.Proofs.SlLaysE.n29 Yba.prog Yba.indexL_ren := {
  mixed := by kernel_rfl
  f29 := ⟨Yba.f9.name, by decide, Yba.func9.trans (congrArg some (by kernel_rfl))⟩
  t0 := Yba.underlying0
  a0 := Yba.isAgg0
  z0 := Yba.sizeOf0
  v0 := Yba.zeroValue0
  t3 := Yba.underlying3
  a3 := Yba.isAgg3
  z3 := Yba.sizeOf3
  v3 := Yba.zeroValue3
  t4 := Yba.underlying4
  a4 := Yba.isAgg4
  z4 := Yba.sizeOf4
  v4 := Yba.zeroValue4
  t22 := Yba.underlying22
  a22 := Yba.isAgg22
  z22 := Yba.sizeOf22
  v22 := Yba.zeroValue22
  a23 := Yba.isAgg23
  z23 := Yba.sizeOf23 }
def Yba.deleteL_ren : Go.Shelf.Ren := ⟨fun | 45 => 10 | n => n, fun | 22 => 22 | 23 => 23 | 3 => 3 | 4 => 4 | 0 => 0 | n => n, fun | n => n⟩
theorem Yba.deleteL : Go.Proofs.SlLaysE.n45 Yba.prog Yba.deleteL_ren := {
  mixed := by kernel_rfl
  f45 := ⟨Yba.f10.name, by decide, Yba.func10.trans (congrArg some (by kernel_rfl))⟩
  t0 := Yba.underlying0
  a0 := Yba.isAgg0
  z0 := Yba.sizeOf0
  v0 := Yba.zeroValue0
  t3 := Yba.underlying3
  a3 := Yba.isAgg3
  z3 := Yba.sizeOf3
  v3 := Yba.zeroValue3
  t4 := Yba.underlying4
  a4 := Yba.isAgg4
  z4 := Yba.sizeOf4
  v4 := Yba.zeroValue4
  t22 := Yba.underlying22
  a22 := Yba.isAgg22
  z22 := Yba.sizeOf22
  v22 := Yba.zeroValue22
  a23 := Yba.isAgg23
  z23 := Yba.sizeOf23 }
end Go.Proofs
