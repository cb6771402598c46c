/-
  DERIVED: THE SHELF's CONTRACTS AT THIS DUMP, IN PLAIN WORDS (tools/lay-plain.mjs out of 'YbulkbiyLay.lean', which tools/lay-shelf.mjs wrote): THE SAME DECLARATIONS UNDER THE SAME NAMES: 'import', 'namespace', 'open', 'def', 'theorem' AND NOTHING ELSE: no command of the shelf's: FOR A HAND-IN. Each laying: the table of numbers ('.._ren') and one theorem, a field a fact of the dump's own or the kernel's comparison; each contract: ONE APPLICATION.
-/
import Derived.Shelf.SlSorted.Search
import Derived.Ground.SlsoProg
import Derived.Test.YbulkbiyProg
namespace Go.Proofs
open Go.Shelf
def Yba.searchL_ren : Go.Shelf.Ren := ⟨fun | 16 => 22 | n => n, fun | 3 => 3 | 35 => 47 | 4 => 4 | 38 => 45 | n => n, fun | n => n⟩
theorem Yba.searchL : Go.Proofs.SlLaysO.n16 Yba.prog Yba.searchL_ren := {
  mixed := by kernel_rfl
  f16 := Yba.func22.trans (congrArg some (by kernel_rfl))
  t3 := Yba.underlying3
  a3 := Yba.isAgg3
  z3 := Yba.sizeOf3
  v3 := Yba.zeroValue3
  t4 := Yba.underlying4
  a4 := Yba.isAgg4
  z4 := Yba.sizeOf4
  v4 := Yba.zeroValue4
  t35 := Yba.underlying47
  a35 := Yba.isAgg47
  z35 := Yba.sizeOf47
  v35 := Yba.zeroValue47
  t38 := Yba.underlying45
  a38 := Yba.isAgg45
  z38 := Yba.sizeOf45
  v38 := Yba.zeroValue45 }
end Go.Proofs
