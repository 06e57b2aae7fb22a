/-
  zzs1546aeq: two slices that hold the same bytes are told equal.
-/
import Derived.Test.YbulkaezmDoorRows
import Derived.WalkKit
import Derived.WalkSpells
import Derived.WalkLawsBesides
import Derived.Deep.QuietTactic
import Derived.BigQuiet
namespace Go.Proofs.YbulkaezmDoor
open Go.RowKit

/-- The slice at p holds the bytes xs. -/
def At (w : World) (p : Option Addr) (xs : List Int) : Prop :=
  ∀ j, j < xs.length → ∃ b o, p = some ⟨b, o, none⟩ ∧ w.cell? ⟨b, o + j, none⟩ = some (.int .u8 (xs[j]?.getD 0))

theorem At.form {w : World} {p : Option Addr} {xs : List Int} (h : At w p xs) (h0 : 0 < xs.length) :
    ∃ b o, p = some ⟨b, o, none⟩ ∧ ∀ j, j < xs.length → w.cell? ⟨b, o + j, none⟩ = some (.int .u8 (xs[j]?.getD 0)) := by
  obtain ⟨b, o, hp, _⟩ := h 0 h0
  refine ⟨b, o, hp, fun j hj => ?_⟩
  obtain ⟨b', o', hp', hc⟩ := h j hj
  rw [hp] at hp'
  cases hp'
  exact hc

set_option maxHeartbeats 400000 in
theorem eq_true (p q : Option Addr) (n ca cb : Nat) (xs : List Int) (w : World) (hn : xs.length = n) (hm : n ≤ 100000) (hp : At w p xs) (hq : At w q xs) :
    Calls Ybad.prog 6 #[.slice p n ca, .slice q n cb] w fun e w' => e = .returned (.bool true) ∧ Below w.heap.size w w' := by
  by_cases h0 : n = 0
  · subst h0
    go_enter Ybad.func6, Ybad.ntmps6
    go_wp2
    refine wp_loop_rounds 1 ?_; rw [rounds_succ]
    go_wp2
    go_ret
    exact ⟨rfl, Below.refl _ _⟩
  · obtain ⟨b, o, rfl, hpc⟩ := hp.form (by omega)
    obtain ⟨b', o', rfl, hqc⟩ := hq.form (by omega)
    have HN : Hid (xs.length = n) := hn
    clear hn hp hq
    go_enter Ybad.func6, Ybad.ntmps6
    go_wp2
    go_loopw [5] (fun i wr => ∃ k : Nat, k ≤ n ∧ i = .int .i64 k ∧ ∃ d, wr = w.drewN d) (fun i _ => n - (intOf i).toNat)
    case atStart => exact ⟨0, Nat.zero_le _, rfl, 0, rfl⟩
    case round =>
      obtain ⟨k, hk, rfl, d, rfl⟩ := hrel
      by_cases hlt : k < n
      · have c1 : w.cell? ⟨b, o + k, none⟩ = some (.int .u8 (xs[k]?.getD 0)) := hpc k (by rw [HN.out]; exact hlt)
        have c2 : w.cell? ⟨b', o' + k, none⟩ = some (.int .u8 (xs[k]?.getD 0)) := hqc k (by rw [HN.out]; exact hlt)
        clear hpc hqc
        go_wp2
        go_quiet (fail)
        go_wp2
        go_roundw
        case rel => exact ⟨k + 1, by omega, by go_num, _, rfl⟩
        case measure => simp [intOf]; omega
      · go_wp2
        go_ret
        exact ⟨rfl, below_drewN (Below.refl _ _) _⟩

end Go.Proofs.YbulkaezmDoor
