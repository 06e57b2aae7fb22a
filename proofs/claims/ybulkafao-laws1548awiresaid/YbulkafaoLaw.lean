/-
  LawS1548AWire, walked.
-/
import Derived.Test.YbulkafaoRec
namespace Go.Proofs.Ybulkafao
open Go.RowKit

theorem Full.slice {w : World} {v : Value} {n : Nat} {xs : List Value} (h : Full w v n xs) : ∃ q c, v = .slice q n c := by
  rcases h with ⟨rfl, rfl, _⟩ | ⟨ad, rfl, _⟩
  · exact ⟨_, _, rfl⟩
  · exact ⟨_, _, rfl⟩

theorem Src.bytes {w : World} {v : Value} {n : Nat} {zs : List Int} (h : Src w v n (bs zs)) : zs.length = n ∧ ∃ p c, v = .slice p n c ∧ Lib.BytesIn w p n zs := by
  rcases h with ⟨rfl, rfl, hz⟩ | ⟨ad, c, rfl, hl, hc⟩
  · have h0 : zs = [] := by simpa [bs] using hz
    subst h0
    exact ⟨rfl, _, _, rfl, Lib.BytesIn.nil _ _ _⟩
  · rw [bs_length] at hl
    refine ⟨hl, _, _, rfl, Lib.BytesIn.of_cells fun i hi => ?_⟩
    refine hc i _ ?_
    have hi' : i < zs.length := by omega
    simp [bs, List.getD, hi']

set_option maxHeartbeats 4000000 in
set_option maxRecDepth 100000 in
theorem walk_none (a0 : Option Addr) (len0 cap0 : Nat) (xs : List Int) (ver : Nat) (a3 : Option Addr) (len3 cap3 : Nat) (w : World) (h0 : len0 ≤ 1024) (h3 : len3 ≤ 1024)
    (S0 : Src w (.slice a0 len0 cap0) len0 (bs xs)) :
    Calls Yba.prog 3 #[.slice a0 len0 cap0, .bool false, .int .u64 ver, .slice a3 len3 cap3] w fun e w' => e = .returned (.bool true) ∧ Below w.heap.size w w' := by
  obtain ⟨i5, hi5, hz5, hs5, hb5⟩ := info_parts info5
  have d0 : decide ((1024 : Int) < (len0 : Int)) = false := by simp; omega
  have d3 : decide ((1024 : Int) < (len3 : Int)) = false := by simp; omega
  have cl := clone_any (.slice a0 len0 cap0) len0 xs w h0 S0
  go_enter Yba.func3, Yba.ntmps3
  go_wp2_with (go_at_call 4; refine cl.mono ?_; rintro e w1 ⟨p, rfl, hF1, hb1⟩; refine Hid.out ?_)
  refine Lib.hid ?_
  have S1 := S0.kept hb1 (Nat.le_refl _)
  have rc := rec_none p len0 xs w1 h0 hF1
  go_wp2_with (go_at_call 5; refine rc.mono ?_; rintro e w2 ⟨got, rfl, hG2, hb2⟩; refine Hid.out ?_)
  refine Lib.hid ?_
  have S2 := S1.kept hb2 (Nat.le_refl _)
  have b2 : Below w.heap.size w w2 := hb1.trans (hb2.mono hb1.size)
  have G2 : Hid (w2.ownsRow w1.heap.size 5 1 got (len0 + 1) (bs (xs ++ [0]))) := hG2
  clear cl rc hF1 hG2 S0 S1 hb1 hb2
  go_wp2_with (refine wpList_make_own w2 rfl (.const (.int .i64 0)) (.tmp 38) 22 rfl w2.heap.size 5 i5 (.int .u8 0) 1 Yba.underlying22 hi5 hz5 hs5 .i64 .i64 _ (len0 + 9 + len3) rfl rfl (by omega) (by rw [hb5]; omega) (by unfold maxLen; omega) (Nat.le_refl _) ?_; refine Hid.out ?_)
  refine Lib.hid ?_
  intro w3 hO3 hg3
  have hb3 : Below w2.heap.size w2 w3 := (Below.refl _ _).grown hg3 (Nat.le_refl _) (fun k hk => by cases hk)
  have S3 := S2.kept hb3 (Nat.le_refl _)
  have n1 : 0 + len0 ≤ maxLen := by unfold maxLen; omega
  have n2 : (0 + len0) * 1 ≤ 140737488355328 := by omega
  have hz3 : w2.heap.size ≤ w3.heap.size := hb3.size
  have o3 := bs_one xs
  clear hg3
  go_wp2_with (at_builtin; refine wpList_app _ rfl (.tmp 40) (.tmp 41) 22 rfl w2.heap.size 5 i5 (.int .u8 0) 1 Yba.underlying22 hi5 hz5 hs5 hb5 rfl _ 0 _ rfl hO3 _ len0 _ rfl S3 o3 n1 n2 hz3 ?_; refine Hid.out ?_)
  refine Lib.hid ?_
  intro v4 w4 hO4 hb4
  clear hO3 n1 n2 o3 S3
  have hb4' : Below w2.heap.size w2 w4 := hb3.trans hb4
  have hz4 : w2.heap.size ≤ (w4.alloc (.cells #[.int .u8 0] 5)).heap.size := by have := hb4'.size; simp; omega
  have hO4' := hO4.alloc (.cells #[.int .u8 0] 5)
  have S4 := src_one (w4.alloc (.cells #[.int .u8 0] 5)) w4.heap.size 1 0 (by simp)
  have n1 : len0 + 1 ≤ maxLen := by unfold maxLen; omega
  have n2 : (len0 + 1) * 1 ≤ 140737488355328 := by omega
  have o3 := bs_one [0]
  clear hO4 hb3 hb4 hz3
  go_wp2_with (at_builtin; refine wpList_app _ rfl (.tmp 45) (.tmp 46) 22 rfl w2.heap.size 5 i5 (.int .u8 0) 1 Yba.underlying22 hi5 hz5 hs5 hb5 rfl _ len0 _ rfl hO4' _ 1 _ rfl S4 o3 n1 n2 hz4 ?_; refine Hid.out ?_)
  refine Lib.hid ?_
  intro v5 w5 hO5 hb5'
  have hb5 : Below w2.heap.size w2 w5 := (hb4'.alloc (by have := hb4'.size; omega) _).trans hb5'
  obtain ⟨l1, p1, c1, rfl, B1⟩ := ((own_src G2.out).kept hb5 (Nat.le_refl _)).bytes
  have hO6 : w5.ownsRow w2.heap.size 5 1 v5 (len0 + 1) (bs (xs ++ [0])) := by simpa [bs_append] using hO5
  obtain ⟨l2, p2, c2, rfl, B2⟩ := (own_src hO6).bytes
  have bq := Any.bytes_Equal_all Yba.laysnb115 p1 p2 _ c1 _ c2 _ _ w5 l1 l2 B1 B2
  have bfin : Below w.heap.size w w5 := b2.trans (hb5.mono b2.size)
  clear hO4' S4 n1 n2 o3 hz4 hO5 hO6 hb5' hb4' hb5 B1 B2 l1 l2
  go_wp2_with (go_at_call 6; refine bq.mono ?_; rintro e w6 ⟨rfl, rfl⟩; refine Hid.out ?_)
  refine Lib.hid ?_
  go_wp2
  go_ret
  exact ⟨by simp, bfin⟩

set_option maxHeartbeats 4000000 in
set_option maxRecDepth 100000 in
theorem walk_held (a0 : Option Addr) (len0 cap0 : Nat) (xs : List Int) (ver : Nat) (a3 : Option Addr) (len3 cap3 : Nat) (ys : List Int) (w : World) (h0 : len0 ≤ 1024) (h3 : len3 ≤ 1024) (hver : ver < 18446744073709551616)
    (S0 : Src w (.slice a0 len0 cap0) len0 (bs xs)) (T0 : Src w (.slice a3 len3 cap3) len3 (bs ys)) :
    Calls Yba.prog 3 #[.slice a0 len0 cap0, .bool true, .int .u64 ver, .slice a3 len3 cap3] w fun e w' => e = .returned (.bool true) ∧ Below w.heap.size w w' := by
  obtain ⟨i5, hi5, hz5, hs5, hb5⟩ := info_parts info5
  have d0 : decide ((1024 : Int) < (len0 : Int)) = false := by simp; omega
  have d3 : decide ((1024 : Int) < (len3 : Int)) = false := by simp; omega
  have cl := clone_any (.slice a0 len0 cap0) len0 xs w h0 S0
  go_enter Yba.func3, Yba.ntmps3
  go_wp2_with (go_at_call_of 4 a0; refine cl.mono ?_; rintro e w1 ⟨p, rfl, hF1, hb1⟩; refine Hid.out ?_)
  refine Lib.hid ?_
  have S1 := S0.kept hb1 (Nat.le_refl _)
  have T1 := T0.kept hb1 (Nat.le_refl _)
  have cl3 := clone_any (.slice a3 len3 cap3) len3 ys w1 h3 T1
  clear cl S0 T0
  go_wp2_with (go_at_call 4; refine cl3.mono ?_; rintro e w2 ⟨q, rfl, hF2, hb2⟩; obtain ⟨qa, qc, rfl⟩ := hF2.slice; refine Hid.out ?_)
  refine Lib.hid ?_
  have S2 := S1.kept hb2 (Nat.le_refl _)
  have T2 := T1.kept hb2 (Nat.le_refl _)
  have hF1' := hF1.kept hb2 (Nat.le_refl _)
  have b2 : Below w.heap.size w w2 := hb1.trans (hb2.mono hb1.size)
  clear cl3 S1 T1 hF1
  obtain ⟨wb, HWB⟩ : ∃ wb, Hid (wb = w2.alloc (.cells #[.int .u64 ver, .slice qa len3 qc, .map none, .bool false, .bool false] 28)) := ⟨_, rfl⟩
  have hbb : Below w2.heap.size w2 wb := by rw [HWB.out]; exact (Below.refl _ _).alloc (Nat.le_refl _) _
  have c0 : wb.cell? ⟨w2.heap.size, 0, none⟩ = some (.int .u64 ver) := by rw [HWB.out]; simp
  have c1 : wb.cell? ⟨w2.heap.size, 1, none⟩ = some (.slice qa len3 qc) := by rw [HWB.out]; simp
  have rc := rec_held p len0 xs w2.heap.size ver (.slice qa len3 qc) len3 ys wb h0 h3 hver (hF1'.kept hbb (Nat.le_refl _)) c0 c1 (hF2.src.kept hbb (Nat.le_refl _))
  have S3 := S2.kept hbb (Nat.le_refl _)
  have T3 := T2.kept hbb (Nat.le_refl _)
  have b3 : Below w.heap.size w wb := b2.trans (hbb.mono b2.size)
  rw [HWB.out] at rc
  clear c0 c1 S2 T2 hF1' hF2 hbb b2 hb1 hb2
  go_wp2_with (go_at_call 5; refine rc.mono ?_; rintro e w4 ⟨got, rfl, hG4, hb4⟩; refine Hid.out ?_)
  refine Lib.hid ?_
  rw [← HWB.out] at hG4 hb4
  have S4 := S3.kept hb4 (Nat.le_refl _)
  have T4 := T3.kept hb4 (Nat.le_refl _)
  have b4 : Below w.heap.size w w4 := b3.trans (hb4.mono b3.size)
  have G4 : Hid (w4.ownsRow wb.heap.size 5 1 got (len0 + 1 + 8 + len3) (bs (xs ++ [1] ++ be ver ++ ys))) := hG4
  clear rc hG4 S3 T3 b3 hb4
  clear HWB
  go_wp2_with (refine wpList_make_own w4 rfl (.const (.int .i64 0)) (.tmp 38) 22 rfl w4.heap.size 5 i5 (.int .u8 0) 1 Yba.underlying22 hi5 hz5 hs5 .i64 .i64 _ (len0 + 9 + len3) rfl rfl (by omega) (by rw [hb5]; omega) (by unfold maxLen; omega) (Nat.le_refl _) ?_; refine Hid.out ?_)
  refine Lib.hid ?_
  intro w5 hO5 hg5
  have hb5' : Below w4.heap.size w4 w5 := (Below.refl _ _).grown hg5 (Nat.le_refl _) (fun k hk => by cases hk)
  have S5 := S4.kept hb5' (Nat.le_refl _)
  have n1 : 0 + len0 ≤ maxLen := by unfold maxLen; omega
  have n2 : (0 + len0) * 1 ≤ 140737488355328 := by omega
  have hz5' : w4.heap.size ≤ w5.heap.size := hb5'.size
  have o3 := bs_one xs
  clear hg5 S4
  go_wp2_with (at_builtin; refine wpList_app _ rfl (.tmp 40) (.tmp 41) 22 rfl w4.heap.size 5 i5 (.int .u8 0) 1 Yba.underlying22 hi5 hz5 hs5 hb5 rfl _ 0 _ rfl hO5 _ len0 _ rfl S5 o3 n1 n2 hz5' ?_; refine Hid.out ?_)
  refine Lib.hid ?_
  intro v6 w6 hO6 hb6
  have hb6' : Below w4.heap.size w4 w6 := hb5'.trans hb6
  have hz6 : w4.heap.size ≤ (w6.alloc (.cells #[.int .u8 1] 5)).heap.size := by have := hb6'.size; simp; omega
  have hO6' := hO6.alloc (.cells #[.int .u8 1] 5)
  have S6 := src_one (w6.alloc (.cells #[.int .u8 1] 5)) w6.heap.size 1 1 (by simp)
  have n3 : len0 + 1 ≤ maxLen := by unfold maxLen; omega
  have n4 : (len0 + 1) * 1 ≤ 140737488355328 := by omega
  have o4 := bs_one [1]
  clear hO5 hb5' hb6 hz5' S5 n1 n2 o3 hO6
  go_wp2_with (at_builtin; refine wpList_app _ rfl (.tmp 48) (.tmp 49) 22 rfl w4.heap.size 5 i5 (.int .u8 0) 1 Yba.underlying22 hi5 hz5 hs5 hb5 rfl _ len0 _ rfl hO6' _ 1 _ rfl S6 o4 n3 n4 hz6 ?_; refine Hid.out ?_)
  refine Lib.hid ?_
  intro v7 w7 hO7 hb7
  have hb7' : Below w4.heap.size w4 w7 := (hb6'.alloc (by have := hb6'.size; omega) _).trans hb7
  have HO7 : w7.ownsRow w4.heap.size 5 1 v7 (len0 + 1 + 0) (bs (xs ++ [1] ++ (be ver).take 0)) := by simpa [bs_append] using hO7
  clear hO6' S6 n3 n4 o4 hz6 hO7 hb7 hb6'
  go_wp2
  go_loopw [12, 13] (fun v i wr => ∃ j : Nat, j ≤ 8 ∧ i = .int .i64 j ∧ wr.ownsRow w4.heap.size 5 1 v (len0 + 1 + j) (bs (xs ++ [1] ++ (be ver).take j)) ∧ Below w4.heap.size w4 wr) (fun _ i _ => 8 - (intOf i).toNat)
  case atStart => exact ⟨0, by omega, rfl, HO7, hb7'⟩
  case round =>
    clear HO7 hb7'
    obtain ⟨j, hj, rfl, hO, hb⟩ := hrel
    by_cases hlt : j < 8
    · have hjj : j = 0 ∨ j = 1 ∨ j = 2 ∨ j = 3 ∨ j = 4 ∨ j = 5 ∨ j = 6 ∨ j = 7 := by omega
      have S := fun z => src_one (wr.alloc (.cells #[.int .u8 z] 5)) wr.heap.size 1 z (by simp)
      have hOa := fun o => hO.alloc o
      have hz := fun o => (show w4.heap.size ≤ (wr.alloc o).heap.size by have := hb.size; simp; omega)
      have n5 : len0 + 1 + j + 1 ≤ maxLen := by unfold maxLen; omega
      have n6 : (len0 + 1 + j + 1) * 1 ≤ 140737488355328 := by omega
      have o5 := fun z => bs_one [z]
      have hba := fun o => hb.alloc (show w4.heap.size ≤ wr.heap.size from hb.size) o
      clear hj hlt hO
      rcases hjj with rfl | rfl | rfl | rfl | rfl | rfl | rfl | rfl
      all_goals
        go_wp2_with (at_builtin; refine wpList_app _ rfl (.tmp 55) (.tmp 63) 22 rfl w4.heap.size 5 i5 (.int .u8 0) 1 Yba.underlying22 hi5 hz5 hs5 hb5 rfl _ _ _ rfl (hOa _) _ 1 _ rfl (S _) (o5 _) n5 n6 (hz _) ?_; refine Hid.out ?_)
        refine Lib.hid ?_
        intro v8 w8 hO8 hb8
        clear S hOa hz n5 n6 o5
        go_wp2
        go_roundw
        case rel => exact ⟨_, Nat.le_of_ble_eq_true rfl, rfl, by simpa [bs, be] using hO8, (hba _).trans hb8⟩
        case measure => simp [intOf]
    · obtain rfl : j = 8 := by omega
      have T5 := T4.kept hb (Nat.le_refl _)
      have n1 : len0 + 1 + 8 + len3 ≤ maxLen := by unfold maxLen; omega
      have n2 : (len0 + 1 + 8 + len3) * 1 ≤ 140737488355328 := by omega
      have hz := hb.size
      have o3 := bs_one ys
      clear hj hlt
      go_wp2_with (at_builtin; refine wpList_app _ rfl (.tmp 65) (.tmp 66) 22 rfl w4.heap.size 5 i5 (.int .u8 0) 1 Yba.underlying22 hi5 hz5 hs5 hb5 rfl _ _ _ rfl hO _ len3 _ rfl T5 o3 n1 n2 hz ?_; refine Hid.out ?_)
      refine Lib.hid ?_
      intro v9 w9 hO9 hb9
      have hb10 : Below w4.heap.size w4 w9 := hb.trans hb9
      obtain ⟨l1, p1, c1, rfl, B1⟩ := ((own_src G4.out).kept hb10 (Nat.le_refl _)).bytes
      have hO10 : w9.ownsRow w4.heap.size 5 1 v9 (len0 + 1 + 8 + len3) (bs (xs ++ [1] ++ be ver ++ ys)) := by
        have ht : (be ver).take 8 = be ver := by simp [be]
        simpa [ht, bs_append] using hO9
      obtain ⟨l2, p2, c2, rfl, B2⟩ := (own_src hO10).bytes
      have bq := Any.bytes_Equal_all Yba.laysnb115 p1 p2 _ c1 _ c2 _ _ w9 l1 l2 B1 B2
      have bfin : Below w.heap.size w w9 := b4.trans (hb10.mono b4.size)
      clear hO hO9 hO10 hb9 hb10 hb B1 B2 l1 l2 n1 n2 hz o3 T4 T5
      go_wp2_with (go_at_call 6; refine bq.mono ?_; rintro e w6 ⟨rfl, rfl⟩; refine Hid.out ?_)
      refine Lib.hid ?_
      go_wp2
      go_ret
      exact ⟨by simp, bfin⟩

end Go.Proofs.Ybulkafao
