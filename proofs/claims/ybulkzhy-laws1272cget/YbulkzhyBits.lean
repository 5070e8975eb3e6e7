/-
  DERIVED: THE SHELF's CONTRACTS AT THIS DUMP, IN PLAIN WORDS (tools/lay-plain.mjs out of 'YbulkzhyBits0.lean', which tools/lay-shelf.mjs wrote): THE SAME DECLARATIONS UNDER THE SAME NAMES: 'import', 'namespace', 'open', 'def', 'theorem' AND NOTHING ELSE: no command of the shelf's: FOR A HAND-IN. Each laying: the table of numbers ('.._ren') and one theorem, a field a fact of the dump's own or the kernel's comparison; each contract: ONE APPLICATION.
-/
import Derived.Test.YbulkzhyRows
import Derived.Shelf.Small.Bits
namespace Go.Proofs
open Go.Shelf
def Yba.sl125_ren : Go.Shelf.Ren := ⟨fun | 125 => 20 | 128 => 31 | 129 => 32 | n => n, fun | 46 => 61 | 3 => 3 | 51 => 75 | 53 => 57 | 4 => 4 | 5 => 5 | 9 => 9 | n => n, fun | n => n⟩
theorem Yba.sl125 : Go.Proofs.Lays.n125 Yba.prog Yba.sl125_ren := {
  mixed := by kernel_rfl
  f125 := Yba.func20.trans (congrArg some (by kernel_rfl))
  f128 := Yba.func31.trans (congrArg some (by kernel_rfl))
  f129 := Yba.func32.trans (congrArg some (by kernel_rfl))
  t3 := Yba.underlying3
  a3 := Yba.isAgg3
  z3 := Yba.sizeOf3
  v3 := Yba.zeroValue3
  t4 := Yba.underlying4
  a4 := Yba.isAgg4
  z4 := Yba.sizeOf4
  v4 := Yba.zeroValue4
  t5 := Yba.underlying5
  a5 := Yba.isAgg5
  z5 := Yba.sizeOf5
  v5 := Yba.zeroValue5
  t9 := Yba.underlying9
  a9 := Yba.isAgg9
  z9 := Yba.sizeOf9
  v9 := Yba.zeroValue9
  t46 := Yba.underlying61
  a46 := Yba.isAgg61
  z46 := Yba.sizeOf61
  v46 := Yba.zeroValue61
  t51 := Yba.underlying75
  a51 := Yba.isAgg75
  z51 := Yba.sizeOf75
  v51 := Yba.zeroValue75
  t53 := Yba.underlying57
  a53 := Yba.isAgg57
  z53 := Yba.sizeOf57
  v53 := Yba.zeroValue57 }
end Go.Proofs
