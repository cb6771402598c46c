/-
  DERIVED: THE SHELF's CONTRACTS AT THIS DUMP, IN PLAIN WORDS (tools/lay-plain.mjs out of 'YbulkbikLayE.lean', which tools/lay-shelf.mjs wrote): THE SAME DECLARATIONS UNDER THE SAME NAMES: 'import', 'namespace', 'open', 'def', 'theorem' AND NOTHING ELSE: no command of the shelf's: FOR A HAND-IN. Each laying: the table of numbers ('.._ren') and one theorem, a field a fact of the dump's own or the kernel's comparison; each contract: ONE APPLICATION.
-/
import Derived.Shelf.SlicesE.Compact
import Derived.Shelf.SlicesE.Equal
import Derived.Shelf.SlicesE.Clone
import Derived.Ground.SlgnProg
import Derived.Test.YbulkbikProg
namespace Go.Proofs
open Go.Shelf
def Yba.compactL_ren : Go.Shelf.Ren := ⟨fun | 43 => 55 | n => n, fun | 22 => 43 | 23 => 21 | 3 => 3 | 4 => 4 | 0 => 0 | n => n, fun | n => n⟩
theorem Yba.compactL : Go.Proofs.SlLaysE.n43 Yba.prog Yba.compactL_ren := {
  mixed := by kernel_rfl
  f43 := ⟨Yba.f55.name, by decide, Yba.func55.trans (congrArg some (by kernel_rfl))⟩
  t0 := Yba.underlying0
  a0 := Yba.isAgg0
  z0 := Yba.sizeOf0
  v0 := Yba.zeroValue0
  t3 := Yba.underlying3
  a3 := Yba.isAgg3
  z3 := Yba.sizeOf3
  v3 := Yba.zeroValue3
  t4 := Yba.underlying4
  a4 := Yba.isAgg4
  z4 := Yba.sizeOf4
  v4 := Yba.zeroValue4
  t22 := Yba.underlying43
  a22 := Yba.isAgg43
  z22 := Yba.sizeOf43
  v22 := Yba.zeroValue43
  a23 := Yba.isAgg21
  z23 := Yba.sizeOf21 }
def Yba.cloneL_ren : Go.Shelf.Ren := ⟨fun | 41 => 53 | n => n, fun | 22 => 53 | 23 => 3 | 4 => 4 | n => n, fun | n => n⟩
theorem Yba.cloneL : Go.Proofs.SlLaysE0.n41 Yba.prog Yba.cloneL_ren := {
  mixed := by kernel_rfl
  f41 := ⟨Yba.f53.name, by decide, Yba.func53.trans (congrArg some (by kernel_rfl))⟩
  t4 := Yba.underlying4
  a4 := Yba.isAgg4
  z4 := Yba.sizeOf4
  v4 := Yba.zeroValue4
  t22 := Yba.underlying53
  a22 := Yba.isAgg53
  z22 := Yba.sizeOf53
  v22 := Yba.zeroValue53 }
def Yba.equalL_ren : Go.Shelf.Ren := ⟨fun | 33 => 12 | n => n, fun | 22 => 43 | 23 => 21 | 4 => 4 | 3 => 3 | 0 => 0 | n => n, fun | n => n⟩
theorem Yba.equalL : Go.Proofs.SlLaysE.n33 Yba.prog Yba.equalL_ren := {
  mixed := by kernel_rfl
  f33 := ⟨Yba.f12.name, by decide, Yba.func12.trans (congrArg some (by kernel_rfl))⟩
  t0 := Yba.underlying0
  a0 := Yba.isAgg0
  z0 := Yba.sizeOf0
  v0 := Yba.zeroValue0
  t3 := Yba.underlying3
  a3 := Yba.isAgg3
  z3 := Yba.sizeOf3
  v3 := Yba.zeroValue3
  t4 := Yba.underlying4
  a4 := Yba.isAgg4
  z4 := Yba.sizeOf4
  v4 := Yba.zeroValue4
  t22 := Yba.underlying43
  a22 := Yba.isAgg43
  z22 := Yba.sizeOf43
  v22 := Yba.zeroValue43
  a23 := Yba.isAgg21
  z23 := Yba.sizeOf21 }
def Yba.equalTxL_ren : Go.Shelf.Ren := ⟨fun | 33 => 24 | n => n, fun | 22 => 24 | 23 => 45 | 4 => 4 | 3 => 3 | 0 => 0 | n => n, fun | n => n⟩
theorem Yba.equalTxL : Go.Proofs.SlLaysE.n33 Yba.prog Yba.equalTxL_ren := {
  mixed := by kernel_rfl
  f33 := ⟨Yba.f24.name, by decide, Yba.func24.trans (congrArg some (by kernel_rfl))⟩
  t0 := Yba.underlying0
  a0 := Yba.isAgg0
  z0 := Yba.sizeOf0
  v0 := Yba.zeroValue0
  t3 := Yba.underlying3
  a3 := Yba.isAgg3
  z3 := Yba.sizeOf3
  v3 := Yba.zeroValue3
  t4 := Yba.underlying4
  a4 := Yba.isAgg4
  z4 := Yba.sizeOf4
  v4 := Yba.zeroValue4
  t22 := Yba.underlying24
  a22 := Yba.isAgg24
  z22 := Yba.sizeOf24
  v22 := Yba.zeroValue24
  a23 := Yba.isAgg45
  z23 := Yba.sizeOf45 }
end Go.Proofs
