/-
  DERIVED: THE SHELF's CONTRACTS AT THIS DUMP, IN PLAIN WORDS (tools/lay-plain.mjs out of 'YbulkzhySearch0.lean', which tools/lay-shelf.mjs wrote): THE SAME DECLARATIONS UNDER THE SAME NAMES: 'import', 'namespace', 'open', 'def', 'theorem' AND NOTHING ELSE: no command of the shelf's: FOR A HAND-IN. Each laying: the table of numbers ('.._ren') and one theorem, a field a fact of the dump's own or the kernel's comparison; each contract: ONE APPLICATION.
-/
import Derived.Test.YbulkzhyRows
import Derived.Shelf.SlSorted.Search
namespace Go.Proofs
open Go.Shelf
def Yba.sl16_ren : Go.Shelf.Ren := ⟨fun | 16 => 16 | n => n, fun | 3 => 3 | 35 => 56 | 4 => 4 | 38 => 61 | n => n, fun | n => n⟩
theorem Yba.sl16 : Go.Proofs.SlLaysO.n16 Yba.prog Yba.sl16_ren := {
  mixed := by kernel_rfl
  f16 := Yba.func16.trans (congrArg some (by kernel_rfl))
  t3 := Yba.underlying3
  a3 := Yba.isAgg3
  z3 := Yba.sizeOf3
  v3 := Yba.zeroValue3
  t4 := Yba.underlying4
  a4 := Yba.isAgg4
  z4 := Yba.sizeOf4
  v4 := Yba.zeroValue4
  t35 := Yba.underlying56
  a35 := Yba.isAgg56
  z35 := Yba.sizeOf56
  v35 := Yba.zeroValue56
  t38 := Yba.underlying61
  a38 := Yba.isAgg61
  z38 := Yba.sizeOf61
  v38 := Yba.zeroValue61 }
end Go.Proofs
