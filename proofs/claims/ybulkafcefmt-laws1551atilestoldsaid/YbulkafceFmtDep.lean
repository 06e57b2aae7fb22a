/-
  depth, walked.
-/
import Derived.Test.YbulkafceFmtMem
import Derived.Test.YbulkafceFmtShelf
import Derived.RegionTactic
import Derived.Deep.DeepCutAuto
import Derived.Deep.CutBlock
import Derived.Deep.RegionLaw
import Derived.Lib.Hide
import Derived.BigQuiet
namespace Go.Proofs.YbulkafceFmt
open Go.RowKit

theorem mixed : Ybaf.prog.follows .mixedOrders = true := by kernel_rfl

/-- math/bits.TrailingZeros64, off the shelf. -/
theorem tz (x : Nat) (hx : x < 18446744073709551616) (w : World) (hT : TabAt 0 Lib.deBruijn64tab w) :
    Calls Ybaf.prog 19 #[.int .u64 x] w fun e w' => e = .returned (.int .i64 (Lib.ctz 64 x)) ∧ w' = w :=
  Any7.bits_TrailingZeros64 Ybaf.lays29 x hx w (fun _ => hT)

theorem ctz_le : ((List.range 7).all fun j => (List.range 65).all fun h => decide (h = 0) || decide (2 ^ j < h) || decide (Lib.ctz 64 h ≤ j)) = true := by
  decide +kernel

theorem ctz_le_j {j h : Nat} (hj : j < 7) (h0 : h ≠ 0) (hh : h ≤ 2 ^ j) : Lib.ctz 64 h ≤ j := by
  have h64 : (2 : Nat) ^ j ≤ 2 ^ 6 := Nat.pow_le_pow_right (by decide) (by omega)
  have a := List.all_eq_true.1 ctz_le j (List.mem_range.2 hj)
  have b := List.all_eq_true.1 a h (List.mem_range.2 (by omega))
  simp only [h0, decide_false, Bool.false_or, Bool.or_eq_true, decide_eq_true_eq] at b
  omega

/-- Nothing in memory has turned. -/
structure Quiet (w w' : World) : Prop where
  os : w'.os = w.os
  tape : w'.tape = w.tape
  output : w'.output = w.output
  heap : w'.heap = w.heap

theorem Quiet.refl (w : World) : Quiet w w := ⟨rfl, rfl, rfl, rfl⟩
theorem Quiet.below {w w' : World} (h : Quiet w w') (B : Nat) : Below B w w' := ⟨h.os, h.tape, h.output, by rw [h.heap]; exact Nat.le_refl _, fun k _ => by rw [h.heap]⟩

set_option maxRecDepth 100000 in
theorem depth_any (rb j h : Nat) (w : World) (hj : j < 7) (hh : h ≤ 2 ^ j) (hc : w.cell? ⟨rb, 20, none⟩ = some (.int .i64 (j : Int))) (hT : TabAt 0 Lib.deBruijn64tab w) :
    Calls Ybaf.prog 18 #[.pointer (some ⟨rb, 17, none⟩), .int .i64 (h : Int)] w fun e w' => e = .returned (.int .i64 (dep j h : Nat)) ∧ Quiet w w' := by
  have mixed := mixed
  have h64 : (2 : Nat) ^ j ≤ 2 ^ 6 := Nat.pow_le_pow_right (by decide) (by omega)
  by_cases h0 : h = 0
  · subst h0
    go_enter Ybaf.func18, Ybaf.ntmps18
    go_wp2
    go_ret
    exact ⟨by simp [dep], Quiet.refl _⟩
  · have hct := ctz_le_j hj h0 hh
    have hd : dep j h = j - Lib.ctz 64 h := by simp [dep, h0]
    obtain ⟨c, HC⟩ : ∃ c, Hid (c = Lib.ctz 64 h) := ⟨_, rfl⟩
    rw [← HC.out] at hct hd
    have htz : Calls Ybaf.prog 19 #[.int .u64 (h : Int)] w.drew fun e w2 => e = .returned (.int .i64 (c : Int)) ∧ w2 = w.drew := by
      rw [HC.out]
      exact tz h (by omega) _ hT
    have HS : Hid (((j - c : Nat) : Int) = (j : Int) - (c : Int)) := by show _ = _; omega
    have hws : IntKind.i64.wrap ((j : Int) - (c : Int)) = (j : Int) - (c : Int) := by simp [IntKind.wrap, IntKind.signed, IntKind.bits]; omega
    have hne : ¬ (h : Int) = 0 := by omega
    have hwr : IntKind.u64.wrap (h : Int) = (h : Int) := by simp [IntKind.wrap, IntKind.signed, IntKind.bits]; omega
    go_enter Ybaf.func18, Ybaf.ntmps18
    go_upto_region 3 with (fail)
    go_region_with (go_at_call 19; refine htz.mono ?_; rintro e w2 ⟨rfl, rfl⟩)
    all_goals
      go_wp2
      go_ret
      exact ⟨by rw [hd, HS.out]; rfl, ⟨rfl, rfl, rfl, rfl⟩⟩

end Go.Proofs.YbulkafceFmt
