/-
  DERIVED: THE SHELF's CONTRACTS AT THIS DUMP, IN PLAIN WORDS (tools/lay-plain.mjs out of 'YbulkzhyClone0.lean', which tools/lay-shelf.mjs wrote): THE SAME DECLARATIONS UNDER THE SAME NAMES: 'import', 'namespace', 'open', 'def', 'theorem' AND NOTHING ELSE: no command of the shelf's: FOR A HAND-IN. Each laying: the table of numbers ('.._ren') and one theorem, a field a fact of the dump's own or the kernel's comparison; each contract: ONE APPLICATION.
-/
import Derived.Test.YbulkzhyRows
import Derived.Shelf.SlicesE.Clone
namespace Go.Proofs
open Go.Shelf
def Yba.sl41_ren : Go.Shelf.Ren := ⟨fun | 41 => 13 | n => n, fun | 22 => 50 | 23 => 21 | 4 => 4 | n => n, fun | n => n⟩
theorem Yba.sl41 : Go.Proofs.SlLaysE0.n41 Yba.prog Yba.sl41_ren := {
  mixed := by kernel_rfl
  f41 := ⟨Yba.f13.name, by decide, Yba.func13.trans (congrArg some (by kernel_rfl))⟩
  t4 := Yba.underlying4
  a4 := Yba.isAgg4
  z4 := Yba.sizeOf4
  v4 := Yba.zeroValue4
  t22 := Yba.underlying50
  a22 := Yba.isAgg50
  z22 := Yba.sizeOf50
  v22 := Yba.zeroValue50 }
end Go.Proofs
