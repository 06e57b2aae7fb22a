/-
  DERIVED: THE SHELF's CONTRACTS AT THIS DUMP, IN PLAIN WORDS (tools/lay-plain.mjs out of 'YbulkafaaShelf.lean', which tools/lay-shelf.mjs wrote): THE SAME DECLARATIONS UNDER THE SAME NAMES: 'import', 'namespace', 'open', 'def', 'theorem' AND NOTHING ELSE: no command of the shelf's: FOR A HAND-IN. Each laying: the table of numbers ('.._ren') and one theorem, a field a fact of the dump's own or the kernel's comparison; each contract: ONE APPLICATION.
-/
import Derived.Shelf.SlLaysO
import Derived.Shelf.SlSorted.Search
import Derived.Test.YbulkafaaProg
namespace Go.Proofs
open Go.Shelf
def Yba.search_ren : Go.Shelf.Ren := ⟨fun | 16 => 10 | n => n, fun | 3 => 3 | 35 => 77 | 4 => 4 | 38 => 71 | n => n, fun | n => n⟩
theorem Yba.search : Go.Proofs.SlLaysO.n16 Yba.prog Yba.search_ren := {
  mixed := by kernel_rfl
  f16 := Yba.func10.trans (congrArg some (by kernel_rfl))
  t3 := Yba.underlying3
  a3 := Yba.isAgg3
  z3 := Yba.sizeOf3
  v3 := Yba.zeroValue3
  t4 := Yba.underlying4
  a4 := Yba.isAgg4
  z4 := Yba.sizeOf4
  v4 := Yba.zeroValue4
  t35 := Yba.underlying77
  a35 := Yba.isAgg77
  z35 := Yba.sizeOf77
  v35 := Yba.zeroValue77
  t38 := Yba.underlying71
  a38 := Yba.isAgg71
  z38 := Yba.sizeOf71
  v38 := Yba.zeroValue71 }
end Go.Proofs
