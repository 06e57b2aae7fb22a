/-
  (*rankSet).remove, walked.
-/
import Derived.Test.YbulkafaaDoorAdd
import Derived.Laws.BitsAllLaws
namespace Go.Proofs.YbulkafaaDoor
open Go.RowKit

theorem not_word (x k : Nat) (hx : x < 18446744073709551616) (hk : k < 64) : bits BinOp.andNot IntKind.u64 (x : Int) (IntKind.u64.wrap (2 ^ k)) = ((x &&& (18446744073709551615 - 2 ^ k) : Nat) : Int) := by
  have h : (2 : Nat) ^ k < 2 ^ 64 := Nat.pow_lt_pow_right (by decide) hk
  rw [wrap_pow k hk, u64_andNot_nat x (2 ^ k) hx (by simpa using h)]

theorem not_bits (x k : Nat) (hk : k < 64) (hx : x < 18446744073709551616) (i : Nat) : (x &&& (18446744073709551615 - 2 ^ k)).testBit i = (x.testBit i && !(2 ^ k).testBit i) := by
  have h : (2 : Nat) ^ k < 2 ^ 64 := Nat.pow_lt_pow_right (by decide) hk
  rw [Nat.testBit_and, show 18446744073709551615 - 2 ^ k = 2 ^ 64 - (2 ^ k + 1) by omega, Nat.testBit_two_pow_sub_succ h]
  by_cases hi : i < 64
  · simp [hi]
  · have : x.testBit i = false := Nat.testBit_lt_two_pow (Nat.lt_of_lt_of_le (show x < 2 ^ 64 by simpa using hx) (Nat.pow_le_pow_right (by decide) (by omega)))
    simp [this]

theorem minus_word (M : Nat → Bool) (r l x q : Nat) (hx : x = wordOf (mem M l) (at_ r l / 64)) (hq : q = at_ r l) (h0 : mem (minus M r) l (at_ r l) = false) :
    x &&& (18446744073709551615 - 2 ^ (q % 64)) = wordOf (mem (minus M r) l) (q / 64) := by
  rw [mem_minus_eq M r l h0, hq]
  refine word_minus_same _ _ _ fun i => ?_
  have hxl : x < 18446744073709551616 := by rw [hx]; exact wordOf_lt _ _
  rw [not_bits x _ (Nat.mod_lt _ (by decide)) hxl, hx]

section
variable {w : World} {sb lb K size r l : Nat} {g : Nat → Nat} {M : Nat → Bool}

theorem step_rem (h : RS w sb lb g K size (fun k => if k < l then mem (minus M r) k else mem M k)) (hl : l < K) (x y q : Nat) (hx : x = wordOf (mem M l) (at_ r l / 64)) (hq : q = at_ r l) (h0 : mem (minus M r) l (at_ r l) = false)
    (hy : y = x &&& (18446744073709551615 - 2 ^ (q % 64))) :
    RS (w.setCell ⟨g l, q / 64, none⟩ (.int .u64 (y : Int))).drew sb lb g K size (fun k => if k < l + 1 then mem (minus M r) k else mem M k) := by
  have h1 := h.store (x := y) (i := q / 64) hl (mem (minus M r) l) (by rw [hy]; exact minus_word M r l x q hx hq h0) (fun j hj => by
    simp only [Nat.lt_irrefl, if_false]
    rw [mem_minus_eq M r l h0]
    exact word_minus_other _ _ _ (by rw [← hq]; exact hj))
  refine (h1.congr fun k _ => ?_).drew
  by_cases e1 : k = l
  · subst e1; simp
  · have : (k < l) ↔ (k < l + 1) := by omega
    simp [e1, this]

theorem last_rem (h : RS w sb lb g K size (fun k => if k < l + 1 then mem (minus M r) k else mem M k)) (hx : wordOf (mem (minus M r) l) (at_ r l / 64) ≠ 0) : RS w sb lb g K size (mem (minus M r)) := by
  refine h.congr fun k _ => ?_
  by_cases hk : k < l + 1
  · simp [hk]
  · have := mem_minus_stay M r (l + 1) (decide_eq_true hx) (k - (l + 1))
    rw [show l + 1 + (k - (l + 1)) = k by omega] at this
    simp [hk, this]

theorem next_rem (hx : wordOf (mem (minus M r) l) (at_ r l / 64) = 0) : mem (minus M r) (l + 1) (at_ r (l + 1)) = false := by
  exact decide_eq_false (fun h => h hx)
end

set_option maxHeartbeats 400000 in
theorem rem_any (w : World) (sb lb K size r : Nat) (g : Nat → Nat) (M : Nat → Bool) (hK : K ≤ 10) (hr : r < size) (hs : size ≤ 100000) (h : RS w sb lb g K size (mem M)) :
    Calls Ybad.prog 6 #[.pointer (some ⟨sb, 0, none⟩), .int .i64 r] w fun e w' => e = .returned (.tuple #[]) ∧ RS w' sb lb g K size (mem (minus M r)) ∧ Only (fun b => ∃ l, l < K ∧ b = g l) w w' := by
  obtain ⟨cap, c0, c1⟩ := h.cells
  go_enter Ybad.func6, Ybad.ntmps6
  go_wp2
  go_loopw [1, 11] (fun q i wr => ∃ l : Nat, l ≤ K ∧ i = .int .i64 l ∧ q = .int .i64 (at_ r l : Nat) ∧ Hid (mem (minus M r) l (at_ r l) = false) ∧ RS wr sb lb g K size (fun k => if k < l then mem (minus M r) k else mem M k) ∧ Only (fun b => ∃ l, l < K ∧ b = g l) w wr) (fun _ i _ => K - (intOf i).toNat)
  case atStart => exact ⟨0, Nat.zero_le _, rfl, rfl, by simp [Hid, mem, minus, at_], h.congr (fun l _ => by simp), Only.refl _ _⟩
  case round =>
    obtain ⟨l, hl, rfl, rfl, h0, hRS, hO⟩ := hrel
    by_cases hlt : l < K
    · have cl := hRS.level hlt
      have hat := at_lt hr l
      have hlen := len_wid size l
      have hw : at_ r l / 64 < len size l := by omega
      have cw := hRS.word hlt hw
      have fw := hRS.free (i := at_ r l / 64) hlt
      simp only [Nat.lt_irrefl, if_false] at cw
      have hb : at_ r l ≤ 100000 := Nat.le_trans (at_le r l) (by omega)
      obtain ⟨q, HQ⟩ : ∃ q, Hid (q = at_ r l) := ⟨_, rfl⟩
      obtain ⟨x, HX⟩ : ∃ x, Hid (x = wordOf (mem M l) (at_ r l / 64)) := ⟨_, rfl⟩
      obtain ⟨y, HY⟩ : ∃ y, Hid (y = x &&& (18446744073709551615 - 2 ^ (q % 64))) := ⟨_, rfl⟩
      obtain ⟨L, HL⟩ : ∃ L, Hid (L = len size l) := ⟨_, rfl⟩
      rw [← HX.out] at cw
      rw [← HQ.out] at cw fw hw hb ⊢
      rw [← HL.out] at cl hw
      have hxy : bits BinOp.andNot IntKind.u64 (x : Int) (IntKind.u64.wrap (2 ^ (q % 64))) = (y : Int) := by
        rw [not_word x _ (by rw [HX.out]; exact wordOf_lt _ _) (Nat.mod_lt _ (by decide)), HY.out]
      have HN : Hid (y = wordOf (mem (minus M r) l) (at_ r l / 64)) := by
        show _ = _
        rw [HY.out, minus_word M r l x q HX.out HQ.out h0.out, HQ.out]
      clear hat hlen h
      by_cases hx : y = 0
      · have hx0 : ((y : Int) != 0) = false := by simp [hx]
        have HX0 : Hid (y = 0) := hx
        clear hx
        go_wp2
        go_region
        go_wp2
        go_roundw
        case rel => exact ⟨l + 1, hlt, by go_num, by rw [HQ.out]; rfl, next_rem (HN.out ▸ HX0.out), step_rem hRS hlt x y q HX.out HQ.out h0.out HY.out, (hO.setCell ⟨l, hlt, rfl⟩ _).drew⟩
        case measure => simp [intOf]; omega
      · have hx0 : ((y : Int) != 0) = true := by simp [hx]
        have HX0 : Hid (y ≠ 0) := hx
        clear hx
        go_wp2
        go_region
        go_wp2
        first | go_end0 | refine bodyPost_ret (results_none rfl _ _ _) rfl ?_
        exact ⟨rfl, last_rem (step_rem hRS hlt x y q HX.out HQ.out h0.out HY.out) (HN.out ▸ HX0.out), (hO.setCell ⟨l, hlt, rfl⟩ _).drew⟩
    · go_wp2
      first | go_end0 | refine bodyPost_ret (results_none rfl _ _ _) rfl ?_
      exact ⟨rfl, hRS.congr (fun k hk => by simp [show k < l by omega]), hO⟩

end Go.Proofs.YbulkafaaDoor
