/-
  (*rankSet).next, walked.
-/
import Derived.Test.YbulkafaaDoorRem
import Derived.Test.YbulkafaaDoorShelf
namespace Go.Proofs.YbulkafaaDoor
open Go.RowKit

/-- math/bits.TrailingZeros64, off the shelf. -/
theorem tz (x : Nat) (hx : x < 18446744073709551616) (w : World) (hT : TabAt 0 Lib.deBruijn64tab w) :
    Calls Ybad.prog 8 #[.int .u64 x] w fun e w' => e = .returned (.int .i64 (Lib.ctz 64 x)) ∧ w' = w :=
  Any7.bits_TrailingZeros64 Ybad.lays29 x hx w (fun _ => hT)

theorem shr_int (x k y : Nat) (h : y = x >>> k) : (x : Int) / 2 ^ k = (y : Int) := by
  rw [h, Nat.shiftRight_eq_div_pow]
  simp

set_option maxHeartbeats 400000 in
theorem next_any (w : World) (sb lb K size r : Nat) (g : Nat → Nat) (M : Nat → Bool) (hK0 : 1 ≤ K) (hK : K ≤ 10) (hr : r < size) (hs : size ≤ 100000) (hM : ∀ i, M i = true → i < size) (htop : len size (K - 1) ≤ 1)
    (hT : TabAt 0 Lib.deBruijn64tab w) (h : RS w sb lb g K size (mem M)) :
    Calls Ybad.prog 7 #[.pointer (some ⟨sb, 0, none⟩), .int .i64 r] w fun e w' => ∃ k : Nat, e = .returned (.int .i64 k) ∧ IsNext M size r k ∧ w' = w := by
  obtain ⟨cap, c0, c1⟩ := h.cells
  have HM : Hid (∀ i, M i = true → i < size) := hM
  have HTop : Hid (len size (K - 1) ≤ 1) := htop
  have HT : Hid (TabAt 0 Lib.deBruijn64tab w) := hT
  have HR : Hid (r < size) := hr
  clear hM htop hT hr
  go_enter Ybad.func7, Ybad.ntmps7
  go_wp2
  go_loop [1, 5] (fun q i => ∃ l p : Nat, l ≤ K ∧ i = .int .i64 l ∧ q = .int .i64 p ∧ p ≤ 150000 ∧ Hid (Clear M r l p ∧ Over r l p ∧ (1 ≤ l → 1 ≤ p))) (fun _ i => K - (intOf i).toNat)
  case atStart => exact ⟨0, r, Nat.zero_le _, rfl, rfl, by have := HR.out; omega, clear_start M r, over_start r, by omega⟩
  case round =>
    obtain ⟨l, p, hl, rfl, rfl, hp, hC⟩ := hrel
    by_cases hlt : l < K
    · have cl := h.level hlt
      obtain ⟨L, HL⟩ : ∃ L, Hid (L = len size l) := ⟨_, rfl⟩
      rw [← HL.out] at cl
      have hlk : ((l : Int) == (K : Int)) = false := by simp; omega
      by_cases hw : p / 64 < L
      · have cw := h.word (i := p / 64) hlt (by rw [← HL.out]; exact hw)
        obtain ⟨x, HX⟩ : ∃ x, Hid (x = wordOf (mem M l) (p / 64)) := ⟨_, rfl⟩
        rw [← HX.out] at cw
        have hw' : ¬ ((L : Int) ≤ (p : Int) / 64) := by omega
        obtain ⟨y, HY⟩ : ∃ y, Hid (y = x >>> (p % 64)) := ⟨_, rfl⟩
        have hxy : (x : Int) / 2 ^ (p % 64) = (y : Int) := shr_int x _ y HY.out
        have hyl : y < 18446744073709551616 := by
          rw [HY.out, Nat.shiftRight_eq_div_pow, HX.out]
          exact Nat.lt_of_le_of_lt (Nat.div_le_self _ _) (wordOf_lt _ _)
        by_cases hy : y = 0
        · have hy0 : ((y : Int) != 0) = false := by simp [hy]
          have HY0 : Hid (y = 0) := hy
          clear hy
          go_wp2
          go_round
          case rel => exact ⟨l + 1, p / 64 + 1, by omega, by go_num, by go_num, by omega, clear_up hC.out.1 (by rw [← HX.out, ← HY.out]; exact HY0.out), over_up hC.out.2.1, by omega⟩
          case measure => simp [intOf]; omega
        · have hy0 : ((y : Int) != 0) = true := by simp [hy]
          have HY0 : Hid (y ≠ 0) := hy
          clear hy
          obtain ⟨hF, hF2⟩ := found_here hC.out.1 hC.out.2.1 (by rw [← HX.out, ← HY.out]) HY0.out
          obtain ⟨c, HCt⟩ : ∃ c, Hid (c = Lib.ctz 64 y) := ⟨_, rfl⟩
          rw [← HCt.out] at hF hF2
          have hc64 : c ≤ 63 := by omega
          have HF : Hid (Found M r l (p + c)) := hF
          clear hF hF2
          have htz : ∀ w', TabAt 0 Lib.deBruijn64tab w' → Calls Ybad.prog 8 #[.int .u64 y] w' fun e w2 => e = .returned (.int .i64 c) ∧ w2 = w' := by
            intro w' ht
            rw [HCt.out]
            exact tz y hyl w' ht
          go_wp2_with (go_at_call 8; refine (htz _ HT.out).mono ?_; rintro e w2 ⟨rfl, rfl⟩)
          clear cl cw hxy hw' hlk htz
          go_loop [1, 5] (fun q i => ∃ l p : Nat, l < K ∧ i = .int .i64 l ∧ q = .int .i64 p ∧ p ≤ 200000 ∧ Hid (Found M r l p)) (fun _ i => (intOf i).toNat)
          case atStart => exact ⟨l, p + c, hlt, rfl, by go_num, by omega, HF⟩
          case round =>
            obtain ⟨l2, p2, hl2, rfl, rfl, hp2, HF2⟩ := hrel
            rcases l2 with _ | m
            · go_wp2
              go_ret
              exact ⟨p2, rfl, found_end HM.out HF2.out, rfl⟩
            · have hm : m < K := by omega
              have hpw : p2 < len size m := mem_lt HM.out (m + 1) p2 HF2.out.1
              have cl := h.level hm
              have cw := h.word (i := p2) hm hpw
              obtain ⟨hD, hD0⟩ := found_down HF2.out
              have hD1 := mem_lt HM.out m _ hD.1
              have hD2 := wid_le size m
              obtain ⟨L2, HL2⟩ : ∃ L, Hid (L = len size m) := ⟨_, rfl⟩
              obtain ⟨z, HZ⟩ : ∃ z, Hid (z = wordOf (mem M m) p2) := ⟨_, rfl⟩
              rw [← HL2.out] at cl hpw
              rw [← HZ.out] at cw hD hD1
              have hzl : z < 18446744073709551616 := by rw [HZ.out]; exact wordOf_lt _ _
              obtain ⟨c2, HC2⟩ : ∃ c, Hid (c = Lib.ctz 64 z) := ⟨_, rfl⟩
              rw [← HC2.out] at hD hD1
              have hb : p2 * 64 + c2 ≤ 100000 := by omega
              have HD : Hid (Found M r m (p2 * 64 + c2)) := hD
              clear hD hD0 hD1 hD2
              have htz : ∀ w', TabAt 0 Lib.deBruijn64tab w' → Calls Ybad.prog 8 #[.int .u64 z] w' fun e w2 => e = .returned (.int .i64 c2) ∧ w2 = w' := by
                intro w' ht
                rw [HC2.out]
                exact tz z hzl w' ht
              go_wp2_with (go_at_call 8; refine (htz _ HT.out).mono ?_; rintro e w2 ⟨rfl, rfl⟩)
              go_round
              case rel => exact ⟨m, p2 * 64 + c2, hm, by go_num, by go_num, by omega, HD⟩
              case measure => simp [intOf]
      · have hw' : ((L : Int) ≤ (p : Int) / 64) := by omega
        go_wp2
        go_ret
        refine ⟨size, rfl, none_above HM.out (Nat.le_of_lt HR.out) hC.out.1 ?_, rfl⟩
        have := len_wid size l
        rw [← HL.out] at this
        omega
    · obtain rfl : l = K := by omega
      go_wp2
      go_ret
      refine ⟨size, rfl, none_above HM.out (Nat.le_of_lt HR.out) hC.out.1 ?_, rfl⟩
      have h1 := HTop.out
      have h2 := hC.out.2.2 hK0
      obtain ⟨k, rfl⟩ : ∃ k, l = k + 1 := ⟨l - 1, by omega⟩
      show len size k ≤ p
      simp at h1
      omega

end Go.Proofs.YbulkafaaDoor
