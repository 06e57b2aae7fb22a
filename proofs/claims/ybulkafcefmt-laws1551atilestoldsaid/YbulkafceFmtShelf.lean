/-
  DERIVED: THE SHELF's CONTRACTS AT THIS DUMP, IN PLAIN WORDS (tools/lay-plain.mjs out of 'YbulkafceFmtShelf.lean', which tools/lay-shelf.mjs wrote): THE SAME DECLARATIONS UNDER THE SAME NAMES: 'import', 'namespace', 'open', 'def', 'theorem' AND NOTHING ELSE: no command of the shelf's: FOR A HAND-IN. Each laying: the table of numbers ('.._ren') and one theorem, a field a fact of the dump's own or the kernel's comparison; each contract: ONE APPLICATION.
-/
import Derived.Shelf.SlGeneric
import Derived.Shelf.Small.Bits
import Derived.Shelf.Strconv.Itoa0
import Derived.Shelf.Lays7
import Derived.Shelf.Lays8
import Derived.Shelf.Spec.TrailingZeros
import Derived.Shelf.Spec.SlicesGrow
import Derived.Test.YbulkafceFmtProg
namespace Go.Proofs
open Go.Shelf
def Ybaf.lays125_ren : Go.Shelf.Ren := ⟨fun | 125 => 12 | 128 => 17 | 129 => 8 | n => n, fun | 46 => 58 | 3 => 3 | 51 => 64 | 53 => 50 | 4 => 4 | 5 => 5 | 9 => 9 | n => n, fun | n => n⟩
theorem Ybaf.lays125 : Go.Proofs.Lays.n125 Ybaf.prog Ybaf.lays125_ren := {
  mixed := by kernel_rfl
  f125 := Ybaf.func12.trans (congrArg some (by kernel_rfl))
  f128 := Ybaf.func17.trans (congrArg some (by kernel_rfl))
  f129 := Ybaf.func8.trans (congrArg some (by kernel_rfl))
  t3 := Ybaf.underlying3
  a3 := Ybaf.isAgg3
  z3 := Ybaf.sizeOf3
  v3 := Ybaf.zeroValue3
  t4 := Ybaf.underlying4
  a4 := Ybaf.isAgg4
  z4 := Ybaf.sizeOf4
  v4 := Ybaf.zeroValue4
  t5 := Ybaf.underlying5
  a5 := Ybaf.isAgg5
  z5 := Ybaf.sizeOf5
  v5 := Ybaf.zeroValue5
  t9 := Ybaf.underlying9
  a9 := Ybaf.isAgg9
  z9 := Ybaf.sizeOf9
  v9 := Ybaf.zeroValue9
  t46 := Ybaf.underlying58
  a46 := Ybaf.isAgg58
  z46 := Ybaf.sizeOf58
  v46 := Ybaf.zeroValue58
  t51 := Ybaf.underlying64
  a51 := Ybaf.isAgg64
  z51 := Ybaf.sizeOf64
  v51 := Ybaf.zeroValue64
  t53 := Ybaf.underlying50
  a53 := Ybaf.isAgg50
  z53 := Ybaf.sizeOf50
  v53 := Ybaf.zeroValue50 }
def Ybaf.lays129_ren : Go.Shelf.Ren := ⟨fun | 129 => 8 | n => n, fun | 53 => 50 | 3 => 3 | 4 => 4 | 46 => 58 | 5 => 5 | 9 => 9 | n => n, fun | n => n⟩
theorem Ybaf.lays129 : Go.Proofs.Lays.n129 Ybaf.prog Ybaf.lays129_ren := {
  mixed := by kernel_rfl
  f129 := Ybaf.func8.trans (congrArg some (by kernel_rfl))
  t3 := Ybaf.underlying3
  a3 := Ybaf.isAgg3
  z3 := Ybaf.sizeOf3
  v3 := Ybaf.zeroValue3
  t4 := Ybaf.underlying4
  a4 := Ybaf.isAgg4
  z4 := Ybaf.sizeOf4
  v4 := Ybaf.zeroValue4
  t5 := Ybaf.underlying5
  a5 := Ybaf.isAgg5
  z5 := Ybaf.sizeOf5
  v5 := Ybaf.zeroValue5
  t9 := Ybaf.underlying9
  a9 := Ybaf.isAgg9
  z9 := Ybaf.sizeOf9
  v9 := Ybaf.zeroValue9
  t46 := Ybaf.underlying58
  a46 := Ybaf.isAgg58
  z46 := Ybaf.sizeOf58
  v46 := Ybaf.zeroValue58
  t53 := Ybaf.underlying50
  a53 := Ybaf.isAgg50
  z53 := Ybaf.sizeOf50
  v53 := Ybaf.zeroValue50 }
def Ybaf.lays29_ren : Go.Shelf.Ren := ⟨fun | 29 => 19 | n => n, fun | 22 => 50 | 3 => 3 | 4 => 4 | 25 => 58 | 54 => 67 | 0 => 0 | 5 => 5 | n => n, fun | 1 => 0 | n => n⟩
theorem Ybaf.lays29 : Go.Proofs.Lays7.n29 Ybaf.prog Ybaf.lays29_ren := {
  mixed := by kernel_rfl
  f29 := Ybaf.func19.trans (congrArg some (by kernel_rfl))
  t0 := Ybaf.underlying0
  a0 := Ybaf.isAgg0
  z0 := Ybaf.sizeOf0
  v0 := Ybaf.zeroValue0
  i0 := by kernel_rfl
  t3 := Ybaf.underlying3
  a3 := Ybaf.isAgg3
  z3 := Ybaf.sizeOf3
  v3 := Ybaf.zeroValue3
  i3 := by kernel_rfl
  t4 := Ybaf.underlying4
  a4 := Ybaf.isAgg4
  z4 := Ybaf.sizeOf4
  v4 := Ybaf.zeroValue4
  i4 := by kernel_rfl
  t5 := Ybaf.underlying5
  a5 := Ybaf.isAgg5
  z5 := Ybaf.sizeOf5
  v5 := Ybaf.zeroValue5
  i5 := by kernel_rfl
  t22 := Ybaf.underlying50
  a22 := Ybaf.isAgg50
  z22 := Ybaf.sizeOf50
  v22 := Ybaf.zeroValue50
  i22 := by kernel_rfl
  t25 := Ybaf.underlying58
  a25 := Ybaf.isAgg58
  z25 := Ybaf.sizeOf58
  v25 := Ybaf.zeroValue58
  i25 := by kernel_rfl
  t54 := Ybaf.underlying67
  a54 := Ybaf.isAgg67
  z54 := Ybaf.sizeOf67
  g1 := by kernel_rfl }
def Ybaf.growO_ren : Go.Shelf.Ren := ⟨fun | 4 => 13 | n => n, fun | 22 => 37 | 25 => 24 | 3 => 3 | 4 => 4 | 9 => 9 | 20 => 20 | 0 => 0 | n => n, fun | n => n⟩
theorem Ybaf.growO : Go.Proofs.Lays8.n4 Ybaf.prog Ybaf.growO_ren := {
  mixed := by kernel_rfl
  f4 := ⟨Ybaf.f13.name, by decide, Ybaf.func13.trans (congrArg some (by kernel_rfl))⟩
  t0 := Ybaf.underlying0
  a0 := Ybaf.isAgg0
  z0 := Ybaf.sizeOf0
  v0 := Ybaf.zeroValue0
  t3 := Ybaf.underlying3
  a3 := Ybaf.isAgg3
  z3 := Ybaf.sizeOf3
  v3 := Ybaf.zeroValue3
  t4 := Ybaf.underlying4
  a4 := Ybaf.isAgg4
  z4 := Ybaf.sizeOf4
  v4 := Ybaf.zeroValue4
  t9 := Ybaf.underlying9
  a9 := Ybaf.isAgg9
  z9 := Ybaf.sizeOf9
  v9 := Ybaf.zeroValue9
  t20 := Ybaf.underlying20
  a20 := Ybaf.isAgg20
  z20 := Ybaf.sizeOf20
  v20 := Ybaf.zeroValue20
  t22 := Ybaf.underlying37
  a22 := Ybaf.isAgg37
  z22 := Ybaf.sizeOf37
  v22 := Ybaf.zeroValue37 }
end Go.Proofs
