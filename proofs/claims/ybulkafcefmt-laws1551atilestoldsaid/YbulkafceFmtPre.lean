/-
  The pieces that are handed in, walked.
-/
import Derived.Test.YbulkafceFmtFill
namespace Go.Proofs.YbulkafceFmt
open Go.RowKit

def pfx1 (k : Nat) : List Value := [.int .i64 (-1 - (k : Int)), .int .i64 ((k : Int) + 7), .int .i64 ((k : Int) * 3), .int .i64 (-(k : Int))]
def pfx : Nat → List Value
  | 0 => []
  | k + 1 => pfx k ++ pfx1 k

theorem pfx1_one (k : Nat) : ∀ u ∈ pfx1 k, u.oneCell' = true := by
  intro u hu
  simp [pfx1] at hu
  rcases hu with rfl | rfl | rfl | rfl <;> rfl

structure PI (w wr : World) (B k : Nat) (v : Value) : Prop where
  own : wr.ownsRow B 44 4 v k (pfx k)
  bel : Below B w wr
  size : B ≤ wr.heap.size
  blk : ∃ d, v.ownBlock = some d ∧ B ≤ d

set_option maxHeartbeats 4000000 in
set_option maxRecDepth 100000 in
theorem pre_any (pre : Int) (P : Nat) (h0 : 0 ≤ pre) (h1 : pre ≤ 255) (hP : pre % 3 = (P : Int)) (w : World) :
    Calls Ybaf.prog 6 #[.int .u8 pre] w fun e w' => ∃ v, e = .returned v ∧ w'.ownsRow w.heap.size 44 4 v P (pfx P) ∧ Below w.heap.size w w' ∧ ∃ d, v.ownBlock = some d ∧ w.heap.size ≤ d := by
  have mixed := mixed
  obtain ⟨i44, hi44, hz44, hs44, hb44⟩ := info_parts info44
  have hP3 : P ≤ 2 := by omega
  obtain ⟨w1, hmk, hown, hg⟩ := run_makeSlice_owned (P := Ybaf.prog) w w.heap.size 27 44 i44 _ 4 Ybaf.underlying27 hi44 hz44 hs44 .i64 .i64 P (by omega) (by rw [hb44]; omega) (by unfold maxLen; omega) (Nat.le_refl _)
  have hb1 : Below w.heap.size w w1 := (Below.refl _ _).grown hg (Nat.le_refl _) (fun k hk => by cases hk)
  obtain ⟨B, HB⟩ : ∃ B, Hid (B = w.heap.size) := ⟨_, rfl⟩
  rw [← HB.out] at hown hb1 hmk ⊢
  have hB1 : B ≤ w1.heap.size := by rw [HB.out]; exact hg.size
  go_enter Ybaf.func6, Ybaf.ntmps6
  go_wp2
  clear hP
  go_loopw [4, 5] (fun v i wr => ∃ k : Nat, k ≤ P ∧ i = .int .i64 (k : Int) ∧ PI w wr B k v) (fun _ i _ => P - (intOf i).toNat)
  case atStart => exact ⟨0, Nat.zero_le _, rfl, hown, hb1, hB1, B, rfl, Nat.le_refl _⟩
  case round =>
    obtain ⟨k, hk, rfl, ⟨hownR, hbr, hBr, hd⟩⟩ := hrel
    by_cases hkl : k < P
    · have hkl' : (k : Int) < (P : Int) := by omega
      have c1 : IntKind.i64.wrap (-1 - (k : Int)) = -1 - (k : Int) := by simp [IntKind.wrap, IntKind.signed, IntKind.bits]; omega
      have c2 : IntKind.i64.wrap ((k : Int) + 7) = (k : Int) + 7 := by simp [IntKind.wrap, IntKind.signed, IntKind.bits]; omega
      have c3 : IntKind.i64.wrap ((k : Int) * 3) = (k : Int) * 3 := by simp [IntKind.wrap, IntKind.signed, IntKind.bits]; omega
      have c4 : IntKind.i64.wrap (-(k : Int)) = -(k : Int) := by simp [IntKind.wrap, IntKind.signed, IntKind.bits]; omega
      have c5 : IntKind.i64.wrap ((k : Int) + 1) = (k : Int) + 1 := by simp [IntKind.wrap, IntKind.signed, IntKind.bits]; omega
      have hnews : ∀ q u, (pfx1 k)[q]? = some u → (wr.alloc (.cells #[.int .i64 (-1 - (k : Int)), .int .i64 ((k : Int) + 7), .int .i64 ((k : Int) * 3), .int .i64 (-(k : Int))] 44)).cell? (Addr.add ⟨wr.heap.size, 0, none⟩ q) = some u := by
        intro q u hq
        match q, hq with
        | 0, hq => simp [pfx1] at hq; simp [Addr.add, ← hq]
        | 1, hq => simp [pfx1] at hq; simp [Addr.add, ← hq]
        | 2, hq => simp [pfx1] at hq; simp [Addr.add, ← hq]
        | 3, hq => simp [pfx1] at hq; simp [Addr.add, ← hq]
        | q + 4, hq => simp [pfx1] at hq
      have hm1 : k + 1 ≤ maxLen := by unfold maxLen; omega
      have hm2 : (k + 1) * 32 ≤ 140737488355328 := by omega
      have hm3 : B ≤ (wr.alloc (.cells #[.int .i64 (-1 - (k : Int)), .int .i64 ((k : Int) + 7), .int .i64 ((k : Int) * 3), .int .i64 (-(k : Int))] 44)).heap.size := by simp; omega
      have hownB := hownR.alloc (.cells #[.int .i64 (-1 - (k : Int)), .int .i64 ((k : Int) + 7), .int .i64 ((k : Int) * 3), .int .i64 (-(k : Int))] 44)
      have hbB := hbr.alloc hBr (.cells #[.int .i64 (-1 - (k : Int)), .int .i64 ((k : Int) + 7), .int .i64 ((k : Int) * 3), .int .i64 (-(k : Int))] 44)
      go_wp2_with (at_builtin; refine wpList_appN _ rfl _ _ 27 rfl B 44 i44 _ 4 32 Ybaf.underlying27 hi44 hz44 hs44 hb44 rfl (by decide) u4 k (pfx k) rfl hownB ⟨wr.heap.size, 0, none⟩ 1 (pfx1 k) rfl rfl hnews (pfx1_one k) hm1 hm2 hm3 ?_; intro v' w7 hown7 hg7 hf7; refine Hid.out ?_)
      refine Lib.hid ?_
      go_wp2
      go_roundw
      case rel =>
        refine ⟨k + 1, by omega, by go_num, ⟨hown7, hbB.grown hg7 hm3 (fun q hq => ?_), Nat.le_trans hm3 hg7.size, ?_⟩⟩
        · obtain ⟨d, h1, h2⟩ := hd
          rw [h1] at hq
          cases hq
          exact h2
        · rcases hf7 with e | ⟨d, e, hge⟩
          · rw [e]; exact hd
          · exact ⟨d, e, by simp at hge hBr; omega⟩
      case measure => simp [intOf]; omega
    · have hke : ¬ ((k : Int) < (P : Int)) := by omega
      obtain rfl : k = P := by omega
      go_wp2
      go_ret
      exact ⟨_, rfl, hownR, hbr, hd⟩

end Go.Proofs.YbulkafceFmt
