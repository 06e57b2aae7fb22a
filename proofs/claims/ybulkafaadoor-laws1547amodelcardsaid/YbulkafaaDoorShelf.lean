/-
  DERIVED: THE SHELF's CONTRACTS AT THIS DUMP, IN PLAIN WORDS (tools/lay-plain.mjs out of 'YbulkafaaDoorShelf.lean', which tools/lay-shelf.mjs wrote): THE SAME DECLARATIONS UNDER THE SAME NAMES: 'import', 'namespace', 'open', 'def', 'theorem' AND NOTHING ELSE: no command of the shelf's: FOR A HAND-IN. Each laying: the table of numbers ('.._ren') and one theorem, a field a fact of the dump's own or the kernel's comparison; each contract: ONE APPLICATION.
-/
import Derived.Shelf.Lays7
import Derived.Shelf.Spec.TrailingZeros
import Derived.Test.YbulkafaaDoorProg
namespace Go.Proofs
open Go.Shelf
def Ybad.lays29_ren : Go.Shelf.Ren := ⟨fun | 29 => 8 | n => n, fun | 22 => 34 | 3 => 3 | 4 => 4 | 25 => 35 | 54 => 39 | 0 => 0 | 5 => 5 | n => n, fun | 1 => 0 | n => n⟩
theorem Ybad.lays29 : Go.Proofs.Lays7.n29 Ybad.prog Ybad.lays29_ren := {
  mixed := by kernel_rfl
  f29 := Ybad.func8.trans (congrArg some (by kernel_rfl))
  t0 := Ybad.underlying0
  a0 := Ybad.isAgg0
  z0 := Ybad.sizeOf0
  v0 := Ybad.zeroValue0
  i0 := by kernel_rfl
  t3 := Ybad.underlying3
  a3 := Ybad.isAgg3
  z3 := Ybad.sizeOf3
  v3 := Ybad.zeroValue3
  i3 := by kernel_rfl
  t4 := Ybad.underlying4
  a4 := Ybad.isAgg4
  z4 := Ybad.sizeOf4
  v4 := Ybad.zeroValue4
  i4 := by kernel_rfl
  t5 := Ybad.underlying5
  a5 := Ybad.isAgg5
  z5 := Ybad.sizeOf5
  v5 := Ybad.zeroValue5
  i5 := by kernel_rfl
  t22 := Ybad.underlying34
  a22 := Ybad.isAgg34
  z22 := Ybad.sizeOf34
  v22 := Ybad.zeroValue34
  i22 := by kernel_rfl
  t25 := Ybad.underlying35
  a25 := Ybad.isAgg35
  z25 := Ybad.sizeOf35
  v25 := Ybad.zeroValue35
  i25 := by kernel_rfl
  t54 := Ybad.underlying39
  a54 := Ybad.isAgg39
  z54 := Ybad.sizeOf39
  g1 := by kernel_rfl }
end Go.Proofs
