/-
  DERIVED: THE SHELF's CONTRACTS AT THIS DUMP, IN PLAIN WORDS (tools/lay-plain.mjs out of 'YbulkafaoFmtShelf.lean', which tools/lay-shelf.mjs wrote): THE SAME DECLARATIONS UNDER THE SAME NAMES: 'import', 'namespace', 'open', 'def', 'theorem' AND NOTHING ELSE: no command of the shelf's: FOR A HAND-IN. Each laying: the table of numbers ('.._ren') and one theorem, a field a fact of the dump's own or the kernel's comparison; each contract: ONE APPLICATION.
-/
import Derived.Shelf.Bin.BEAppendUint64
import Derived.Shelf.Bytes.SlEqualAll
import Derived.Shelf.Bin.ReadersZ
import Derived.Test.YbulkafaoFmtProg
namespace Go.Proofs
open Go.Shelf
def Ybaf.laysBin42_ren : Go.Shelf.Ren := ⟨fun | 42 => 9 | n => n, fun | 37 => 37 | 22 => 23 | 33 => 22 | 0 => 0 | 5 => 5 | 45 => 42 | n => n, fun | n => n⟩
theorem Ybaf.laysBin42 : Go.Proofs.LaysBin.n42 Ybaf.prog Ybaf.laysBin42_ren := {
  mixed := by kernel_rfl
  f42 := Ybaf.func9.trans (congrArg some (by kernel_rfl))
  t0 := Ybaf.underlying0
  a0 := Ybaf.isAgg0
  z0 := Ybaf.sizeOf0
  v0 := Ybaf.zeroValue0
  i0 := by kernel_rfl
  t5 := Ybaf.underlying5
  a5 := Ybaf.isAgg5
  z5 := Ybaf.sizeOf5
  v5 := Ybaf.zeroValue5
  i5 := by kernel_rfl
  t22 := Ybaf.underlying23
  a22 := Ybaf.isAgg23
  z22 := Ybaf.sizeOf23
  v22 := Ybaf.zeroValue23
  i22 := by kernel_rfl
  t33 := Ybaf.underlying22
  a33 := Ybaf.isAgg22
  z33 := Ybaf.sizeOf22
  v33 := Ybaf.zeroValue22
  i33 := by kernel_rfl
  t37 := Ybaf.underlying37
  a37 := Ybaf.isAgg37
  z37 := Ybaf.sizeOf37
  v37 := Ybaf.zeroValue37
  i37 := by kernel_rfl
  t45 := Ybaf.underlying42
  a45 := Ybaf.isAgg42
  z45 := Ybaf.sizeOf42
  v45 := Ybaf.zeroValue42
  i45 := by kernel_rfl }
def Ybaf.laysBin44_ren : Go.Shelf.Ren := ⟨fun | 44 => 8 | n => n, fun | 37 => 37 | 22 => 23 | 33 => 22 | 0 => 0 | 45 => 42 | 5 => 5 | n => n, fun | n => n⟩
theorem Ybaf.laysBin44 : Go.Proofs.LaysBin.n44 Ybaf.prog Ybaf.laysBin44_ren := {
  mixed := by kernel_rfl
  f44 := Ybaf.func8.trans (congrArg some (by kernel_rfl))
  t0 := Ybaf.underlying0
  a0 := Ybaf.isAgg0
  z0 := Ybaf.sizeOf0
  v0 := Ybaf.zeroValue0
  i0 := by kernel_rfl
  t5 := Ybaf.underlying5
  a5 := Ybaf.isAgg5
  z5 := Ybaf.sizeOf5
  v5 := Ybaf.zeroValue5
  i5 := by kernel_rfl
  t22 := Ybaf.underlying23
  a22 := Ybaf.isAgg23
  z22 := Ybaf.sizeOf23
  v22 := Ybaf.zeroValue23
  i22 := by kernel_rfl
  t33 := Ybaf.underlying22
  a33 := Ybaf.isAgg22
  z33 := Ybaf.sizeOf22
  v33 := Ybaf.zeroValue22
  i33 := by kernel_rfl
  t37 := Ybaf.underlying37
  a37 := Ybaf.isAgg37
  z37 := Ybaf.sizeOf37
  v37 := Ybaf.zeroValue37
  i37 := by kernel_rfl
  t45 := Ybaf.underlying42
  a45 := Ybaf.isAgg42
  z45 := Ybaf.sizeOf42
  v45 := Ybaf.zeroValue42
  i45 := by kernel_rfl }
def Ybaf.laysnb115_ren : Go.Shelf.Ren := ⟨fun | 115 => 7 | n => n, fun | 37 => 23 | 4 => 4 | 9 => 9 | 5 => 5 | n => n, fun | n => n⟩
theorem Ybaf.laysnb115 : Go.Proofs.Lays.nb115 Ybaf.prog Ybaf.laysnb115_ren := {
  mixed := by kernel_rfl
  f115 := Ybaf.func7.trans (congrArg some (by kernel_rfl))
  t4 := Ybaf.underlying4
  a4 := Ybaf.isAgg4
  z4 := Ybaf.sizeOf4
  v4 := Ybaf.zeroValue4
  t9 := Ybaf.underlying9
  a9 := Ybaf.isAgg9
  z9 := Ybaf.sizeOf9
  v9 := Ybaf.zeroValue9
  t37 := Ybaf.underlying23
  a37 := Ybaf.isAgg23
  z37 := Ybaf.sizeOf23
  v37 := Ybaf.zeroValue23
  t5 := Ybaf.underlying5
  a5 := Ybaf.isAgg5
  z5 := Ybaf.sizeOf5
  v5 := Ybaf.zeroValue5 }
end Go.Proofs
