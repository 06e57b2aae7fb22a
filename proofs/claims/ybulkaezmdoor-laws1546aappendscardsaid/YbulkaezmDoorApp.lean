/-
  appendPlainInt, by strconv.AppendInt's contract off the shelf.
-/
import Derived.Test.YbulkaezmDoorRows
import Derived.Test.YbulkaezmDoorShelf
import Derived.WalkKit
import Derived.WalkSpells
import Derived.WalkLawsBesides
import Derived.Lib.AppendIntMem
namespace Go.Proofs.YbulkaezmDoor
open Go.RowKit

/-- The name of the table of powers of ten: the first that the row names. -/
def powName : String := Rows.lawS1546AAppendsRow.named.getD 0 ""

/-- strconv.AppendInt at base 10, off the shelf: what comes back owns dst's cells and, behind them, i's decimal numeral. -/
theorem append_int (B n : Nat) (i : Int) (h0 : -9223372036854775808 ≤ i) (h1 : i ≤ 9223372036854775807) (sv : Value) (xs : List Value) (w : World) (hown : w.ownsRow B 5 1 sv n xs) (hBw : B ≤ w.heap.size) (hlim : n + 21 ≤ 140737488355328) (htab : Lib.TabBelow Ybad.prog B w powName .u64 Lib.pow10Tab) :
    Calls Ybad.prog 7 #[sv, .int .i64 i, .int .i64 10] w fun e w' => ∃ v', e = .returned v' ∧ w'.ownsRow B 5 1 v' (n + (Lib.itoa i).length) (xs ++ Lib.byteCells (Lib.itoa i)) ∧ Below B w w' ∧ Lib.OthersKept 5 none w w' :=
  Any.strconv_AppendInt_10 Ybad.laysM176 B n i h0 h1 sv xs w hown hBw hlim htab

set_option maxHeartbeats 400000 in
theorem app_yes (verb : Int) (hv : verb = 118 ∨ verb = 100) (B n : Nat) (i : Int) (h0 : -9223372036854775808 ≤ i) (h1 : i ≤ 9223372036854775807) (sv : Value) (xs : List Value) (w : World)
    (hown : w.ownsRow B 5 1 sv n xs) (hBw : B ≤ w.heap.size) (hlim : n ≤ 1024) (htab : Lib.TabBelow Ybad.prog B w powName .u64 Lib.pow10Tab) :
    Calls Ybad.prog 4 #[sv, .int .i32 verb, .int .i64 i] w fun e w' => ∃ v', e = .returned (.tuple #[v', .bool true]) ∧ w'.ownsRow B 5 1 v' (n + (Lib.itoa i).length) (xs ++ Lib.byteCells (Lib.itoa i)) ∧ Below B w w' := by
  rcases hv with rfl | rfl
  all_goals
    go_enter Ybad.func4, Ybad.ntmps4
    go_wp2_with (go_at_call 7; refine (append_int B n i h0 h1 sv xs w hown hBw (by omega) htab).mono ?_; rintro e w1 ⟨v1, rfl, hown1, hnx1, -⟩)
    go_ret2
    exact ⟨v1, rfl, hown1, hnx1⟩

set_option maxHeartbeats 400000 in
theorem app_no (verb : Int) (hv1 : (verb == 118) = false) (hv2 : (verb == 100) = false) (i : Int) (sv : Value) (w : World) :
    Calls Ybad.prog 4 #[sv, .int .i32 verb, .int .i64 i] w fun e w' => e = .returned (.tuple #[sv, .bool false]) ∧ w' = w := by
  go_enter Ybad.func4, Ybad.ntmps4
  go_wp2
  go_ret2
  exact ⟨rfl, rfl⟩

end Go.Proofs.YbulkaezmDoor
