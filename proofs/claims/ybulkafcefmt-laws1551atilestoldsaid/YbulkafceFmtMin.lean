/-
  minSeg, walked.
-/
import Derived.Test.YbulkafceFmtReopen
namespace Go.Proofs.YbulkafceFmt
open Go.RowKit

section
variable {B rb sb scap ob ocap oN : Nat} {R : Nat → Value} {S : Nat → En} {sz : Nat} {O : Nat → Option Nat} {j : Nat}

set_option maxHeartbeats 2000000 in
set_option maxRecDepth 100000 in
theorem minSeg_any (x0 i : Nat) (w : World) (hj : j < 7) (hF : FM w B rb sb scap ob ocap oN R S sz O j) (hx0 : x0 ≤ j) (hi : O x0 = some i) (hno : ∀ x, x0 < x → x ≤ j → O x = none) :
    Calls Ybaf.prog 10 #[.pointer (some ⟨rb, 17, none⟩)] w fun e w' => e = .returned (.tuple #[.int .i64 (i : Int), .int .i64 (x0 : Int)]) ∧ Quiet w w' := by
  have mixed := mixed
  have HF : Hid (FM w B rb sb scap ob ocap oN R S sz O j) := hF
  obtain ⟨r17, r18, r19, r20⟩ := hF.roomCell
  clear hF
  go_enter Ybaf.func10, Ybaf.ntmps10
  go_wp2
  go_loop [4] (fun v => ∃ x : Nat, x0 ≤ x ∧ x ≤ j ∧ v = .int .i64 (x : Int)) (fun v => (intOf v).toNat)
  case atStart => exact ⟨j, hx0, Nat.le_refl _, rfl⟩
  case round =>
    obtain ⟨x, h1, h2, rfl⟩ := hrel
    have hxl : (x : Int) < (j : Int) + 1 := by omega
    have ox := HF.out.opnCell h2
    by_cases hlt : x0 < x
    · obtain ⟨a, c, hR⟩ := HF.out.zero h2 (hno x hlt h2)
      rw [hR] at ox
      go_wp2
      go_round
      case rel => exact ⟨x - 1, by omega, by omega, by congr 1; omega⟩
      case measure => simp [intOf]; omega
    · obtain rfl : x = x0 := by omega
      obtain ⟨b, c, hR, hb1, hb2⟩ := HF.out.one h2 hi
      rw [hR] at ox
      go_wp2
      go_ret2
      exact ⟨rfl, Quiet.refl _⟩
end

end Go.Proofs.YbulkafceFmt
