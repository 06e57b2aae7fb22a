/-
  (*rankSet).add, walked.
-/
import Derived.Test.YbulkafaaDoorWorld
import Derived.Laws.Bits64b
import Derived.BigRegion
namespace Go.Proofs.YbulkafaaDoor
open Go.RowKit

theorem wrap_pow (k : Nat) (hk : k < 64) : IntKind.u64.wrap (2 ^ k) = ((2 ^ k : Nat) : Int) := by
  have h : (2 : Nat) ^ k < 2 ^ 64 := Nat.pow_lt_pow_right (by decide) hk
  rw [IntKind.wrap_u64]
  have e : ((2 : Int) ^ k) = ((2 ^ k : Nat) : Int) := by simp
  rw [e]
  exact Int.emod_eq_of_lt (Int.natCast_nonneg _) (show ((2 ^ k : Nat) : Int) < ((18446744073709551616 : Nat) : Int) from Int.ofNat_lt.2 (by simpa using h))

theorem or_word (x k : Nat) (hx : x < 18446744073709551616) (hk : k < 64) : bits BinOp.or IntKind.u64 (x : Int) (IntKind.u64.wrap (2 ^ k)) = ((x ||| 2 ^ k : Nat) : Int) := by
  have h : (2 : Nat) ^ k < 2 ^ 64 := Nat.pow_lt_pow_right (by decide) hk
  rw [wrap_pow k hk, bits_or_u64_nat x (2 ^ k) hx (by simpa using h)]

theorem at_le (r : Nat) : ∀ l, at_ r l ≤ r
  | 0 => Nat.le_refl _
  | l + 1 => Nat.le_trans (Nat.div_le_self _ _) (at_le r l)

section
variable {w : World} {sb lb K size r l : Nat} {g : Nat → Nat} {M : Nat → Bool}

theorem step_add (h : RS w sb lb g K size (fun k => if k < l then mem (plus M r) k else mem M k)) (hl : l < K) (x q : Nat) (hx : x = wordOf (mem M l) (at_ r l / 64)) (hq : q = at_ r l) :
    RS (w.setCell ⟨g l, q / 64, none⟩ (.int .u64 (bits BinOp.or IntKind.u64 (x : Int) (IntKind.u64.wrap (2 ^ (q % 64)))))).drew sb lb g K size (fun k => if k < l + 1 then mem (plus M r) k else mem M k) := by
  have hxl : x < 18446744073709551616 := by rw [hx]; exact wordOf_lt _ _
  rw [or_word x (q % 64) hxl (Nat.mod_lt _ (by decide))]
  have e : x ||| 2 ^ (q % 64) = wordOf (mem (plus M r) l) (q / 64) := by rw [hx, hq, word_plus_same, mem_plus]
  have h1 := h.store (x := x ||| 2 ^ (q % 64)) (i := q / 64) hl (mem (plus M r) l) e (fun j hj => by
    simp only [Nat.lt_irrefl, if_false]
    rw [mem_plus]
    exact word_plus_other _ _ _ (by rw [← hq]; exact hj))
  refine (h1.congr fun k _ => ?_).drew
  by_cases e1 : k = l
  · subst e1; simp
  · have : (k < l) ↔ (k < l + 1) := by omega
    simp [e1, this]

theorem last_add (h : RS w sb lb g K size (fun k => if k < l + 1 then mem (plus M r) k else mem M k)) (hx : wordOf (mem M l) (at_ r l / 64) ≠ 0) : RS w sb lb g K size (mem (plus M r)) := by
  refine h.congr fun k _ => ?_
  by_cases hk : k < l + 1
  · simp [hk]
  · have := mem_plus_stay M r l hx (k - (l + 1))
    rw [show l + 1 + (k - (l + 1)) = k by omega] at this
    simp [hk, this]
end

set_option maxHeartbeats 400000 in
theorem add_any (w : World) (sb lb K size r : Nat) (g : Nat → Nat) (M : Nat → Bool) (hK : K ≤ 10) (hr : r < size) (hs : size ≤ 100000) (h : RS w sb lb g K size (mem M)) :
    Calls Ybad.prog 5 #[.pointer (some ⟨sb, 0, none⟩), .int .i64 r] w fun e w' => e = .returned (.tuple #[]) ∧ RS w' sb lb g K size (mem (plus M r)) ∧ Only (fun b => ∃ l, l < K ∧ b = g l) w w' := by
  obtain ⟨cap, c0, c1⟩ := h.cells
  go_enter Ybad.func5, Ybad.ntmps5
  go_wp2
  go_loopw [1, 12] (fun q i wr => ∃ l : Nat, l ≤ K ∧ i = .int .i64 l ∧ q = .int .i64 (at_ r l : Nat) ∧ RS wr sb lb g K size (fun k => if k < l then mem (plus M r) k else mem M k) ∧ Only (fun b => ∃ l, l < K ∧ b = g l) w wr) (fun _ i _ => K - (intOf i).toNat)
  case atStart => exact ⟨0, Nat.zero_le _, rfl, rfl, h.congr (fun l _ => by simp), Only.refl _ _⟩
  case round =>
    obtain ⟨l, hl, rfl, rfl, hRS, hO⟩ := hrel
    by_cases hlt : l < K
    · have cl := hRS.level hlt
      have hat := at_lt hr l
      have hlen := len_wid size l
      have hw : at_ r l / 64 < len size l := by omega
      have cw := hRS.word hlt hw
      have fw := hRS.free (i := at_ r l / 64) hlt
      simp only [Nat.lt_irrefl, if_false] at cw
      have hb : at_ r l ≤ 100000 := Nat.le_trans (at_le r l) (by omega)
      obtain ⟨q, HQ⟩ : ∃ q, Hid (q = at_ r l) := ⟨_, rfl⟩
      obtain ⟨x, HX⟩ : ∃ x, Hid (x = wordOf (mem M l) (at_ r l / 64)) := ⟨_, rfl⟩
      obtain ⟨L, HL⟩ : ∃ L, Hid (L = len size l) := ⟨_, rfl⟩
      rw [← HX.out] at cw
      rw [← HQ.out] at cw fw hw hb ⊢
      rw [← HL.out] at cl hw
      clear hat hlen h
      by_cases hx : x = 0
      · have hx0 : ((x : Int) != 0) = false := by simp [hx]
        clear hx
        go_wp2
        go_region
        go_wp2
        go_roundw
        case rel => exact ⟨l + 1, hlt, by go_num, by rw [HQ.out]; rfl, step_add hRS hlt x q HX.out HQ.out, (hO.setCell ⟨l, hlt, rfl⟩ _).drew⟩
        case measure => simp [intOf]; omega
      · have hx0 : ((x : Int) != 0) = true := by simp [hx]
        have HX0 : Hid (x ≠ 0) := hx
        clear hx
        go_wp2
        go_region
        go_wp2
        first | go_end0 | refine bodyPost_ret (results_none rfl _ _ _) rfl ?_
        exact ⟨rfl, last_add (step_add hRS hlt x q HX.out HQ.out) (HX.out ▸ HX0.out), (hO.setCell ⟨l, hlt, rfl⟩ _).drew⟩
    · go_wp2
      first | go_end0 | refine bodyPost_ret (results_none rfl _ _ _) rfl ?_
      exact ⟨rfl, hRS.congr (fun k hk => by simp [show k < l by omega]), hO⟩

end Go.Proofs.YbulkafaaDoor
