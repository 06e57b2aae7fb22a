/-
  LawS1547AModel, walked.
-/
import Derived.Test.YbulkafaaDoorLawWorld
import Derived.Lib.Hide
namespace Go.Proofs.YbulkafaaDoor
open Go.RowKit

theorem info4 : (Ybad.prog.info? 4).map (fun i => (i.zero, i.size, i.bytes)) = some (some (.bool false), 1, 1) := by kernel_rfl

theorem and_word (x k : Nat) (hx : x < 18446744073709551616) (hk : k < 64) : (bits BinOp.and IntKind.u64 (x : Int) (IntKind.u64.wrap (2 ^ k)) != 0) = x.testBit k := by
  have h : (2 : Nat) ^ k < 2 ^ 64 := Nat.pow_lt_pow_right (by decide) hk
  rw [wrap_pow k hk, bits_and_u64_nat x (2 ^ k) hx (by simpa using h)]
  have e : x &&& 2 ^ k = if x.testBit k then 2 ^ k else 0 := by
    apply Nat.eq_of_testBit_eq
    intro i
    rw [Nat.testBit_and, Nat.testBit_two_pow]
    by_cases hi : k = i
    · subst hi
      cases hx : x.testBit k <;> simp
    · cases hx : x.testBit k <;> simp [hi]
  rw [e]
  have hp := Nat.two_pow_pos k
  cases x.testBit k with
  | true => simp only [if_true]; rw [bne_iff_ne]; omega
  | false => simp

set_option maxHeartbeats 4000000 in
set_option maxRecDepth 100000 in
theorem walk_small (n scale : Int) (p : Option Addr) (b o ln cp : Nat) (A B : Nat → Int) (w : World) (hn0 : 0 ≤ n) (hn1 : n ≤ 65535) (hs0 : 0 ≤ scale) (hs1 : scale ≤ 255) (hl0 : ln ≤ 1024) (hp : 0 < ln → p = some ⟨b, o, none⟩)
    (hA : ∀ i, i < ln → w.cell? ⟨b, o + i * 2, none⟩ = some (.int .u8 (A i)) ∧ w.cell? ⟨b, o + i * 2 + 1, none⟩ = some (.int .u16 (B i)) ∧ 0 ≤ A i ∧ A i ≤ 255 ∧ 0 ≤ B i ∧ B i ≤ 65535)
    (hT : TabAt 0 Lib.deBruijn64tab w) :
    Calls Ybad.prog 3 #[.int .u16 n, .int .u8 scale, .slice p ln cp] w fun e w' => e = .returned (.bool true) ∧ Below w.heap.size w w' := by
  obtain ⟨size, hsize⟩ : ∃ size : Nat, 1 + n % 300 + 64 * (scale % 70) = (size : Int) := ⟨(1 + n % 300 + 64 * (scale % 70)).toNat, by omega⟩
  have hz1 : 1 ≤ size := by omega
  have hz2 : size ≤ 5000 := by omega
  have hln : decide ((1024 : Int) < (ln : Int)) = false := by simp; omega
  have HT : Hid (TabAt 0 Lib.deBruijn64tab w) := hT
  clear hT
  go_enter Ybad.func3, Ybad.ntmps3
  go_wp2_with (go_at_call 4; refine (new_any size hz1 (by omega) w).mono ?_; rintro e w1 ⟨lb, K, cap, g, rfl, hK1, hK2, hK3, hNJ⟩; refine Hid.out ?_)
  refine Lib.hid ?_
  have hmk := run_make_row' (P := Ybad.prog) 28 4 (.bool false) 1 Ybad.underlying28 info4 rfl .i64 .i64 size (by omega) (by omega)
  have hLW := lw_start hNJ
  obtain ⟨sb, HS⟩ : ∃ sb, Hid (sb = w1.heap.size) := ⟨_, rfl⟩
  obtain ⟨mb, HMb⟩ : ∃ mb, Hid (mb = w1.heap.size + 1) := ⟨_, rfl⟩
  have hw0 : 0 < w.heap.size := World.block_lt_of_cell? w ⟨0, 0, none⟩ (HT.out 0 (by decide))
  go_wp2
  rw [← HMb.out, ← HS.out] at hLW ⊢
  clear hmk hNJ
  go_loopw [45] (fun i wr => ∃ (k : Nat) (M : Nat → Bool), k ≤ ln ∧ i = .int .i64 k ∧ LW w wr sb lb mb g K size M) (fun i _ => ln - (intOf i).toNat)
  case atStart => exact ⟨0, _, Nat.zero_le _, rfl, hLW⟩
  case round =>
    clear hLW
    obtain ⟨k, M, hk, rfl, hLW⟩ := hrel
    by_cases hlt : k < ln
    · obtain ⟨cA, cB, a0, a1, b0, b1⟩ := hA k hlt
      obtain rfl : p = some ⟨b, o, none⟩ := hp (by omega)
      have hb : b < w.heap.size := World.block_lt_of_cell? w _ cA
      have cA' : wr.cell? ⟨b, o + k * 2, none⟩ = some (.int .u8 (A k)) := (hLW.below.cell (by exact hb)).trans cA
      have cB' : wr.cell? ⟨b, o + k * 2 + 1, none⟩ = some (.int .u16 (B k)) := (hLW.below.cell (by exact hb)).trans cB
      generalize A k = x at *
      generalize B k = y at *
      clear cA cB hA
      obtain ⟨r, hr, hrs⟩ : ∃ r : Nat, y * 61 % (size : Int) = (r : Int) ∧ r < size := ⟨(y * 61 % (size : Int)).toNat, by
        have h1 := Int.emod_nonneg (y * 61) (show (size : Int) ≠ 0 by omega)
        have h2 := Int.emod_lt_of_pos (y * 61) (show (0 : Int) < size by omega)
        omega⟩
      by_cases hop : x % 2 = 0
      · have hop' : (x % 2 == 0) = true := by simp [hop]
        have hLW1 := hLW.alloc (.cells #[.int .u8 x, .int .u16 y] 30)
        clear hop
        go_wp2_with (go_at_call 5; refine (add_any _ sb lb K size r g M hK2 hrs (by omega) hLW1.rs).mono ?_; rintro e w2 ⟨rfl, hRS2, hO2⟩; refine Hid.out ?_)
        refine Lib.hid ?_
        obtain ⟨hm2, _⟩ := hLW1.turn hO2
        obtain ⟨c2, f2⟩ := LW.mcell hm2 hrs
        have hLW2 := hLW1.store (plus M r) hRS2 hO2 r true (by simp [plus]) (fun j hj => by simp [plus, hj]) (plus_lt hLW.lt hrs)
        clear hLW1 hLW hRS2 hO2 hm2
        go_wp2
        go_roundw
        case rel => exact ⟨k + 1, _, hlt, by go_num, hLW2⟩
        case measure => simp [intOf]; omega
      · have hop' : (x % 2 == 0) = false := by simp [hop]
        have hLW1 := hLW.alloc (.cells #[.int .u8 x, .int .u16 y] 30)
        clear hop
        go_wp2_with (go_at_call 6; refine (rem_any _ sb lb K size r g M hK2 hrs (by omega) hLW1.rs).mono ?_; rintro e w2 ⟨rfl, hRS2, hO2⟩; refine Hid.out ?_)
        refine Lib.hid ?_
        obtain ⟨hm2, _⟩ := hLW1.turn hO2
        obtain ⟨c2, f2⟩ := LW.mcell hm2 hrs
        have hLW2 := hLW1.store (minus M r) hRS2 hO2 r false (by simp [minus]) (fun j hj => by simp [minus, hj]) (minus_lt hLW.lt)
        clear hLW1 hLW hRS2 hO2 hm2
        go_wp2_with (go_at_call 7; refine (next_any _ sb lb K size r g (minus M r) hK1 hK2 hrs (by omega) hLW2.lt hK3 (TabAt.below HT.out hw0 hLW2.below rfl) hLW2.rs).mono ?_; rintro e w3 ⟨q, rfl, hq, rfl⟩; refine Hid.out ?_)
        refine Lib.hid ?_
        have hqr : ((q : Int) == (r : Int)) = false := by
          have : q ≠ r := by
            rintro rfl
            rcases hq.2.2.1 with e | e
            · omega
            · simp [minus] at e
          simp; omega
        clear hq
        go_wp2
        go_roundw
        case rel => exact ⟨k + 1, _, hlt, by go_num, hLW2⟩
        case measure => simp [intOf]; omega
    · obtain ⟨cap2, s0, s1⟩ := hLW.rs.cells
      have cl0 := hLW.rs.level (l := 0) hK1
      have hK0 : ((K : Int) == 0) = false := by simp; omega
      have hLb := len_bound size hz1 (by omega)
      obtain ⟨L, HL⟩ : ∃ L, Hid (L = len size 0) := ⟨_, rfl⟩
      rw [← HL.out] at cl0 hLb
      have hL0 : L ≤ 1563 := hLb.1
      clear hLb hA
      go_wp2
      clear hk hlt
      go_loop [14] (fun i => ∃ j : Nat, j ≤ L ∧ i = .int .i64 j) (fun i => L - (intOf i).toNat)
      case atStart => exact ⟨0, Nat.zero_le _, rfl⟩
      case round =>
        obtain ⟨j, hj, rfl⟩ := hrel
        by_cases hjl : j < L
        · have cw := hLW.rs.word (l := 0) (i := j) hK1 (by rw [← HL.out]; exact hjl)
          obtain ⟨x, HX⟩ : ∃ x, Hid (x = wordOf (mem M 0) j) := ⟨_, rfl⟩
          rw [← HX.out] at cw
          go_wp2
          go_loop [15] (fun i => ∃ t : Nat, t ≤ 64 ∧ i = .int .i64 t) (fun i => 64 - (intOf i).toNat)
          case atStart => exact ⟨0, Nat.zero_le _, rfl⟩
          case round =>
            obtain ⟨t, ht, rfl⟩ := hrel
            by_cases htl : t < 64
            · obtain ⟨tb, HTB⟩ : ∃ tb, Hid (tb = M (64 * j + t)) := ⟨_, rfl⟩
              have hbit : (bits BinOp.and IntKind.u64 (x : Int) (IntKind.u64.wrap (2 ^ t)) != 0) = tb := by
                rw [and_word x t (by rw [HX.out]; exact wordOf_lt _ _) htl, HX.out, wordOf_bit, HTB.out]
                simp [htl, mem]
              by_cases hi : j * 64 + t < size
              · have cm : wr.cell? ⟨mb, j * 64 + t, none⟩ = some (.bool tb) := by
                  rw [(LW.mcell hLW.md hi).1, HTB.out, Nat.mul_comm]
                go_wp2
                go_round
                case rel => exact ⟨t + 1, by omega, by go_num⟩
                case measure => simp [intOf]; omega
              · have hi' : decide ((j : Int) * 64 + (t : Int) < (size : Int)) = false := by simp; omega
                have htb : tb = false := by
                  cases hc : tb with
                  | false => rfl
                  | true => have := hLW.lt _ (HTB.out ▸ hc); omega
                subst htb
                go_wp2
                go_round
                case rel => exact ⟨t + 1, by omega, by go_num⟩
                case measure => simp [intOf]; omega
            · go_wp2
              go_round
              case rel => exact ⟨j + 1, by omega, by go_num⟩
              case measure => simp [intOf]; omega
        · go_wp2
          clear hj hjl cl0
          go_loop [19] (fun i => ∃ l : Nat, 1 ≤ l ∧ l ≤ K ∧ i = .int .i64 l) (fun i => K - (intOf i).toNat)
          case atStart => exact ⟨1, Nat.le_refl _, hK1, rfl⟩
          case round =>
            obtain ⟨l, hl1, hlK, rfl⟩ := hrel
            by_cases hlt : l < K
            · obtain ⟨m, rfl⟩ : ∃ m, l = m + 1 := ⟨l - 1, by omega⟩
              have cl1 := hLW.rs.level (l := m) (by omega)
              have cl2 := hLW.rs.level hlt
              have hw1 := Nat.le_trans (show len size m ≤ wid size (m + 1) from Nat.le_refl _) (wid_le size (m + 1))
              have hw2 := Nat.le_trans (show len size (m + 1) ≤ wid size (m + 2) from Nat.le_refl _) (wid_le size (m + 2))
              obtain ⟨L1, HL1⟩ : ∃ L, Hid (L = len size m) := ⟨_, rfl⟩
              obtain ⟨L2, HL2⟩ : ∃ L, Hid (L = len size (m + 1)) := ⟨_, rfl⟩
              rw [← HL1.out] at cl1 hw1
              rw [← HL2.out] at cl2 hw2
              go_wp2
              go_loop [22] (fun i => ∃ t : Nat, t ≤ L2 * 64 ∧ i = .int .i64 t) (fun i => L2 * 64 - (intOf i).toNat)
              case atStart => exact ⟨0, Nat.zero_le _, rfl⟩
              case round =>
                obtain ⟨t, ht, rfl⟩ := hrel
                by_cases htl : t < L2 * 64
                · have htd : t / 64 < L2 := by omega
                  have cw := hLW.rs.word (l := m + 1) (i := t / 64) hlt (by rw [← HL2.out]; exact htd)
                  obtain ⟨x, HX⟩ : ∃ x, Hid (x = wordOf (mem M (m + 1)) (t / 64)) := ⟨_, rfl⟩
                  obtain ⟨tb, HTB⟩ : ∃ tb, Hid (tb = mem M (m + 1) t) := ⟨_, rfl⟩
                  rw [← HX.out] at cw
                  have hbit : (bits BinOp.and IntKind.u64 (x : Int) (IntKind.u64.wrap (2 ^ (t % 64))) != 0) = tb := by
                    rw [and_word x (t % 64) (by rw [HX.out]; exact wordOf_lt _ _) (Nat.mod_lt _ (by decide)), HX.out, wordOf_bit, HTB.out, show 64 * (t / 64) + t % 64 = t by omega]
                    simp [Nat.mod_lt]
                  by_cases hi : t < L1
                  · have cw1 := hLW.rs.word (l := m) (i := t) (by omega) (by rw [← HL1.out]; exact hi)
                    obtain ⟨y, HY⟩ : ∃ y, Hid (y = wordOf (mem M m) t) := ⟨_, rfl⟩
                    rw [← HY.out] at cw1
                    have hyb : ((y : Int) != 0) = tb := by
                      rw [HTB.out]
                      simp only [mem, ← HY.out]
                      by_cases hy : y = 0
                      · simp [hy]
                      · simp [hy]
                    go_wp2
                    go_round
                    case rel => exact ⟨t + 1, by omega, by go_num⟩
                    case measure => simp [intOf]; omega
                  · have hi' : decide ((t : Int) < (L1 : Int)) = false := by simp; omega
                    have htb : tb = false := by
                      cases hc : tb with
                      | false => rfl
                      | true =>
                        have h1 := mem_lt hLW.lt (m + 1) t (HTB.out ▸ hc)
                        have h2 : wid size (m + 1) = L1 := HL1.out.symm
                        omega
                    subst htb
                    go_wp2
                    go_round
                    case rel => exact ⟨t + 1, by omega, by go_num⟩
                    case measure => simp [intOf]; omega
                · go_wp2
                  go_round
                  case rel => exact ⟨m + 2, by omega, by omega, by go_num⟩
                  case measure => simp [intOf]; omega
            · go_wp2
              clear hl1 hlK hlt s0 s1 hK0
              go_loop [25, 26] (fun q i => ∃ k nm : Nat, k ≤ size ∧ i = .int .i64 ((k : Int) - 1) ∧ q = .int .i64 nm ∧ Hid (IsNext M size k nm)) (fun _ i => (intOf i + 1).toNat)
              case atStart => exact ⟨size, size, Nat.le_refl _, rfl, rfl, Nat.le_refl _, Nat.le_refl _, .inl rfl, fun i h1 h2 => by omega⟩
              case round =>
                obtain ⟨k2, nm, hk2, rfl, rfl, hnm⟩ := hrel
                rcases k2 with _ | m
                · go_wp2
                  go_ret
                  exact ⟨rfl, hLW.below⟩
                · have hms : m < size := by omega
                  obtain ⟨cm, _⟩ := LW.mcell hLW.md hms
                  obtain ⟨tb, HTB⟩ : ∃ tb, Hid (tb = M m) := ⟨_, rfl⟩
                  rw [← HTB.out] at cm
                  have hnx := fun w' (h1 : LW w w' sb lb mb g K size M) => next_any w' sb lb K size m g M hK1 hK2 hms (by omega) h1.lt hK3 (TabAt.below HT.out hw0 h1.below rfl) h1.rs
                  cases tb with
                  | true =>
                    have hme : IsNext M size m m := ⟨Nat.le_refl _, by omega, .inr HTB.out.symm, fun i h1 h2 => by omega⟩
                    have HME : Hid (IsNext M size m m) := hme
                    clear hme
                    go_wp2_with (go_at_call 7; refine (hnx _ hLW).mono ?_; rintro e w3 ⟨q, rfl, hq, rfl⟩; refine Hid.out ?_)
                    refine Lib.hid ?_
                    have hqe : q = m := hq.unique HME.out
                    subst hqe
                    clear hq
                    go_wp2
                    go_round
                    case rel => exact ⟨q, q, by omega, by go_num, by go_num, HME⟩
                    case measure => simp [intOf]
                  | false =>
                    have HME : Hid (IsNext M size m nm) := by
                      obtain ⟨b1, b2, b3, b4⟩ := hnm.out
                      refine ⟨by omega, b2, b3, fun i h1 h2 => ?_⟩
                      by_cases e : i = m
                      · rw [e]; exact HTB.out.symm
                      · exact b4 i (by omega) h2
                    go_wp2_with (go_at_call 7; refine (hnx _ hLW).mono ?_; rintro e w3 ⟨q, rfl, hq, rfl⟩; refine Hid.out ?_)
                    refine Lib.hid ?_
                    have hqe : q = nm := hq.unique HME.out
                    subst hqe
                    clear hq
                    go_wp2
                    go_round
                    case rel => exact ⟨m, q, by omega, by go_num, rfl, HME⟩
                    case measure => simp [intOf]

set_option maxHeartbeats 400000 in
set_option maxRecDepth 100000 in
theorem walk_big (n scale : Int) (p : Option Addr) (ln cp : Nat) (w : World) (hl : 1024 < ln) (hm : ln ≤ maxLen) :
    Calls Ybad.prog 3 #[.int .u16 n, .int .u8 scale, .slice p ln cp] w fun e w' => e = .returned (.bool true) ∧ Below w.heap.size w w' := by
  unfold maxLen at hm
  go_enter Ybad.func3, Ybad.ntmps3
  go_wp2
  go_ret
  exact ⟨rfl, Below.refl _ _⟩

end Go.Proofs.YbulkafaaDoor
