/-
  DERIVED: THE SHELF's CONTRACTS AT THIS DUMP, IN PLAIN WORDS (tools/lay-plain.mjs out of 'YbulkafaoShelf.lean', which tools/lay-shelf.mjs wrote): THE SAME DECLARATIONS UNDER THE SAME NAMES: 'import', 'namespace', 'open', 'def', 'theorem' AND NOTHING ELSE: no command of the shelf's: FOR A HAND-IN. Each laying: the table of numbers ('.._ren') and one theorem, a field a fact of the dump's own or the kernel's comparison; each contract: ONE APPLICATION.
-/
import Derived.Shelf.Bin.BEAppendUint64
import Derived.Shelf.Bytes.SlEqualAll
import Derived.Test.YbulkafaoProg
namespace Go.Proofs
open Go.Shelf
def Yba.laysBin44_ren : Go.Shelf.Ren := ⟨fun | 44 => 7 | n => n, fun | 37 => 34 | 22 => 22 | 33 => 23 | 0 => 0 | 45 => 30 | 5 => 5 | n => n, fun | n => n⟩
theorem Yba.laysBin44 : Go.Proofs.LaysBin.n44 Yba.prog Yba.laysBin44_ren := {
  mixed := by kernel_rfl
  f44 := Yba.func7.trans (congrArg some (by kernel_rfl))
  t0 := Yba.underlying0
  a0 := Yba.isAgg0
  z0 := Yba.sizeOf0
  v0 := Yba.zeroValue0
  i0 := by kernel_rfl
  t5 := Yba.underlying5
  a5 := Yba.isAgg5
  z5 := Yba.sizeOf5
  v5 := Yba.zeroValue5
  i5 := by kernel_rfl
  t22 := Yba.underlying22
  a22 := Yba.isAgg22
  z22 := Yba.sizeOf22
  v22 := Yba.zeroValue22
  i22 := by kernel_rfl
  t33 := Yba.underlying23
  a33 := Yba.isAgg23
  z33 := Yba.sizeOf23
  v33 := Yba.zeroValue23
  i33 := by kernel_rfl
  t37 := Yba.underlying34
  a37 := Yba.isAgg34
  z37 := Yba.sizeOf34
  v37 := Yba.zeroValue34
  i37 := by kernel_rfl
  t45 := Yba.underlying30
  a45 := Yba.isAgg30
  z45 := Yba.sizeOf30
  v45 := Yba.zeroValue30
  i45 := by kernel_rfl }
def Yba.laysnb115_ren : Go.Shelf.Ren := ⟨fun | 115 => 6 | n => n, fun | 37 => 22 | 4 => 4 | 9 => 9 | 5 => 5 | n => n, fun | n => n⟩
theorem Yba.laysnb115 : Go.Proofs.Lays.nb115 Yba.prog Yba.laysnb115_ren := {
  mixed := by kernel_rfl
  f115 := Yba.func6.trans (congrArg some (by kernel_rfl))
  t4 := Yba.underlying4
  a4 := Yba.isAgg4
  z4 := Yba.sizeOf4
  v4 := Yba.zeroValue4
  t9 := Yba.underlying9
  a9 := Yba.isAgg9
  z9 := Yba.sizeOf9
  v9 := Yba.zeroValue9
  t37 := Yba.underlying22
  a37 := Yba.isAgg22
  z37 := Yba.sizeOf22
  v37 := Yba.zeroValue22
  t5 := Yba.underlying5
  a5 := Yba.isAgg5
  z5 := Yba.sizeOf5
  v5 := Yba.zeroValue5 }
end Go.Proofs
