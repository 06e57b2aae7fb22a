/-
  LawS1551ATiles, walked.
-/
import Derived.Test.YbulkafceFmtLawR
namespace Go.Proofs.YbulkafceFmt
open Go.RowKit

theorem room_zero (cs : Array Value) (w : World) (h : cs.size = 21 ∧ cs[17]? = some (.slice none 0 0) ∧ cs[18]? = some (.slice none 0 0) ∧ cs[19]? = some (.int .i64 0) ∧ cs[20]? = some (.int .i64 0)) : Rw (w.alloc (.cells cs 41)) w.heap.size 41 21 (fun k => 17 ≤ k ∧ k ≤ 20) zeroF := by
  obtain ⟨h0, h1, h2, h3, h4⟩ := h
  refine ⟨cs, heap_alloc_new _ _, h0, fun k hk => ?_⟩
  obtain ⟨hk1, hk2⟩ := hk
  rcases (show k = 17 ∨ k = 18 ∨ k = 19 ∨ k = 20 by omega) with rfl | rfl | rfl | rfl
  · exact h1
  · exact h2
  · exact h3
  · exact h4

theorem own_zero {w : World} {B n : Nat} {v : Value} {xs : List Value} (h : w.ownsRow B 44 4 v n xs) : w.ownsRow 0 44 4 v n xs := by
  refine ⟨h.1, ?_⟩
  rcases h.2 with h0 | ⟨g, cap, cur, rfl, h1, h2⟩
  · exact .inl h0
  · exact .inr ⟨g, cap, cur, rfl, Nat.zero_le _, h2⟩

set_option maxHeartbeats 8000000 in
set_option maxRecDepth 100000 in
theorem law_any (p q t pre : Int) (rp : Option Addr) (rl rc : Nat) (r : Nat → Nat) (w : World) (hp0 : 0 ≤ p ∧ p ≤ 255) (hq0 : 0 ≤ q ∧ q ≤ 255) (hpre : 0 ≤ pre ∧ pre ≤ 255) (ht : -2147483648 ≤ t ∧ t ≤ 2147483647)
    (hrl : rl ≤ 9223372036854775807) (hr : ∀ k, k < rl → ∃ b o, rp = some ⟨b, o, none⟩ ∧ w.cell? ⟨b, o + k, none⟩ = some (.int .u16 (r k : Int)) ∧ r k ≤ 65535) (hT : TabAt 0 Lib.deBruijn64tab w) (hw0 : 0 < w.heap.size) :
    Calls Ybaf.prog 3 #[.int .u8 p, .int .u8 q, .slice rp rl rc, .int .i32 t, .int .u8 pre] w fun e w' => e = .returned (.bool true) ∧ Below w.heap.size w w' := by
  have mixed := mixed
  obtain ⟨n, hn⟩ : ∃ n : Nat, p % 7 = (n : Int) := ⟨(p % 7).toNat, by omega⟩
  obtain ⟨j, hj⟩ : ∃ n : Nat, q % 7 = (n : Int) := ⟨(q % 7).toNat, by omega⟩
  obtain ⟨P, hP⟩ : ∃ n : Nat, pre % 3 = (n : Int) := ⟨(pre % 3).toNat, by omega⟩
  have hn7 : n < 7 := by omega
  have hj7 : j < 7 := by omega
  have hP2 : P ≤ 2 := by omega
  have bld := build_any p q n j rp rl rc r w hn hj hn7 hj7 hp0 hq0 hrl hr
  obtain ⟨tj, HTJ⟩ : ∃ v : Nat, Hid (v = 2 ^ j) := ⟨_, rfl⟩
  obtain ⟨tn, HTN⟩ : ∃ v : Nat, Hid (v = 2 ^ n) := ⟨_, rfl⟩
  rw [← HTN.out, ← HTJ.out] at bld
  have pfa := fun W => pre_any pre P hpre.1 hpre.2 hP W
  clear hn hj hP hr
  have h64 : (2 : Nat) ^ j ≤ 2 ^ 6 := Nat.pow_le_pow_right (by decide) (by omega)
  have hn64 : (2 : Nat) ^ n ≤ 2 ^ 6 := Nat.pow_le_pow_right (by decide) (by omega)
  have wt : IntKind.i64.wrap t = t := by simp [IntKind.wrap, IntKind.signed, IntKind.bits]; omega
  go_enter Ybaf.func3, Ybaf.ntmps3
  go_wp2_with (go_at_call 5; refine bld.mono ?_; rintro e w1 ⟨a, rfl, hTw, hrg, hso⟩; refine Hid.out ?_)
  refine Lib.hid ?_
  go_wp2_with (go_at_call 6; refine (pfa w1).mono ?_; rintro e w2 ⟨v0, rfl, hown0, hb2, d0, hd0, hd0'⟩; refine Hid.out ?_)
  refine Lib.hid ?_
  obtain ⟨c0, rfl⟩ : ∃ c0, v0 = .slice (some ⟨d0, 0, none⟩) P c0 := by
    rcases hown0.2 with ⟨rfl, _⟩ | ⟨g, cap, cur, rfl, _⟩
    · cases hd0
    · simp [Value.ownBlock] at hd0
      subst hd0
      exact ⟨cap, rfl⟩
  go_wp2_with (go_at_call 6; refine (pfa w2).mono ?_; rintro e w3 ⟨ev, rfl, howne, hb3, d1, hd1, hd1'⟩; refine Hid.out ?_)
  refine Lib.hid ?_
  obtain ⟨c1, rfl⟩ : ∃ c1, ev = .slice (some ⟨d1, 0, none⟩) P c1 := by
    rcases howne.2 with ⟨rfl, _⟩ | ⟨g, cap, cur, rfl, _⟩
    · cases hd1
    · simp [Value.ownBlock] at hd1
      subst hd1
      exact ⟨cap, rfl⟩
  have hj1 := hTw.j.lt
  have hlt0 : d0 < w2.heap.size := by
    obtain ⟨cur, hc⟩ := own_row4 hown0 hd0
    exact lt_heap hc
  have hlt1 : d1 < w3.heap.size := by
    obtain ⟨cur, hc⟩ := own_row4 howne hd1
    exact lt_heap hc
  have hz2 := hb2.size
  have hz3 := hb3.size
  go_upto_region 6 with (fail)
  obtain ⟨RZ, HRZ⟩ : ∃ RZ : Array Value, Hid (RZ = #[.slice none 0 0, .slice none 0 0, .slice none 0 0, .slice none 0 0, .slice none 0 0, .slice none 0 0, .slice none 0 0, .slice none 0 0, .slice none 0 0, .slice none 0 0, .slice none 0 0, .int .i64 0, .int .i64 0, .slice none 0 0, .slice none 0 0, .map none, .int .i64 0, .slice none 0 0, .slice none 0 0, .int .i64 0, .int .i64 0]) := ⟨_, rfl⟩
  rw [← HRZ.out]
  have hrz := room_zero RZ w3 (by rw [HRZ.out]; exact ⟨rfl, rfl, rfl, rfl, rfl⟩)
  clear HRZ
  obtain ⟨w4, HW4⟩ : ∃ w4, Hid (w4 = w3.alloc (.cells RZ 41)) := ⟨_, rfl⟩
  have hblk : ∀ b, b < w3.heap.size → w4.heap[b]? = w3.heap[b]? := fun b hb => by rw [HW4.out]; exact Below.heap_alloc _ _ _ hb
  have hz4 : w4.heap.size = w3.heap.size + 1 := by rw [HW4.out]; simp
  have hb4 : Below w.heap.size w w4 := by
    rw [HW4.out]
    exact ((hTw.bel.trans (hb2.mono (by omega))).trans (hb3.mono (by omega))).alloc (by omega) _
  rw [← HW4.out] at hrz ⊢
  clear HW4
  have hold : ∀ b, b < w1.heap.size → w4.heap[b]? = w1.heap[b]? := fun b hb => by rw [hblk b (by omega), hb3.block b (by omega), hb2.block b (by omega)]
  have h04 : w4.heap[d0]? = w2.heap[d0]? := by rw [hblk d0 (by omega), hb3.block d0 hlt0]
  have h14 : w4.heap[d1]? = w3.heap[d1]? := hblk d1 hlt1
  have hown4 : w4.ownsRow 0 44 4 (.slice (some ⟨d0, 0, none⟩) P c0) P (pfx P) := own_zero (own_keep4 hown0 fun b hb => by simp [Value.ownBlock] at hb; subst hb; exact h04)
  have howne4 : w4.ownsRow w2.heap.size 44 4 (.slice (some ⟨d1, 0, none⟩) P c1) P (pfx P) := own_keep4 howne fun b hb => by simp [Value.ownBlock] at hb; subst hb; exact h14
  have hM4 : ∀ k, k < 2 ^ j → w4.cell? ⟨w.heap.size, k, none⟩ = some (.int .i64 (minF n rl r k : Int)) := fun k hk => (World.cell?_of_block (hold w.heap.size (by omega))).trans (hTw.m.cell (k := k) (by rw [HTJ.out]; exact hk))
  have hJ4 : ∀ k, k < 2 ^ j → w4.cell? ⟨w.heap.size + 1, k, none⟩ = some (.int .i64 (a k : Int)) ∧ a k < 2 ^ j := fun k hk => ⟨(World.cell?_of_block (hold (w.heap.size + 1) hj1)).trans (hTw.j.cell (k := k) (by rw [HTJ.out]; exact hk)), by rw [← HTJ.out]; exact hrg k (by rw [HTJ.out]; exact hk)⟩
  have hMb : ∀ k, 1 ≤ minF n rl r k ∧ minF n rl r k ≤ 2 ^ n := fun k => by
    unfold minF
    have := Nat.mod_lt (if rl = 0 then 0 else r (k % rl)) (pow_pos2 n)
    omega
  have hT4 : TabAt 0 Lib.deBruijn64tab w4 := fun k hk => (World.cell?_of_block (hb4.block 0 hw0)).trans (hT k hk)
  have fl := fill_any (B := w3.heap.size) (cm := tj) (cj := tj) n j t (.slice (some ⟨d0, 0, none⟩) P c0) (pfx P) a (minF n rl r) w4 hj7 hn7 ht hP2 hrz (Nat.le_refl _) (by omega) hT4 (by simp [Value.ownBlock]; omega) ⟨by omega, by simp [Value.ownBlock]; omega⟩ ⟨by omega, by simp [Value.ownBlock]; omega⟩ hM4 hMb hJ4 (fun k hk => hso k (by rw [HTJ.out]; exact hk)) hown4
  rw [← HTN.out, ← HTJ.out] at fl
  go_wp2_with (go_at_call 7; refine fl.mono ?_; rintro e w5 ⟨v, ps, rfl, hown5, hlen, hgood, hpw, hov, hfr⟩; refine Hid.out ?_)
  refine Lib.hid ?_
  obtain ⟨g, cap, rfl⟩ : ∃ g cap, v = .slice (some ⟨g, 0, none⟩) (P + tj) cap := by
    rcases hown5.2 with ⟨_, h0⟩ | ⟨g, cap, cur, rfl, _⟩
    · have : 0 < tj := by rw [HTJ.out]; exact pow_pos2 _
      omega
    · exact ⟨g, cap, rfl⟩
  have hRd : Rd w5 g d1 w.heap.size (w.heap.size + 1) n j P t a (minF n rl r) ps := by
    have hkeep : ∀ b, b < w3.heap.size → d0 ≠ b → w5.heap[b]? = w4.heap[b]? := fun b hb hne => hfr.block b hb (fun e => hne (by simp [Value.ownBlock] at e; exact e))
    refine Rd.make (cap := cap) (v := .slice (some ⟨g, 0, none⟩) (P + tj) cap) (ev := .slice (some ⟨d1, 0, none⟩) P c1) (by rw [HTJ.out]) rfl (by rw [← HTJ.out]; exact hown5) (own_keep4 howne4 fun b hb => ?_) (by rw [hlen, HTJ.out]) hgood hpw (fun k hk => ⟨?_, (hJ4 k hk).2⟩) (fun k hk => ?_)
    · simp [Value.ownBlock] at hb
      subst hb
      exact hkeep d1 (by omega) (by omega)
    · exact (World.cell?_of_block (hkeep (w.heap.size + 1) (by omega) (by omega))).trans (hJ4 k hk).1
    · exact (World.cell?_of_block (hkeep w.heap.size (by omega) (by omega))).trans (hM4 k hk)
  have hb5 : Below w.heap.size w w5 := by
    refine ⟨hfr.os.trans hb4.os, hfr.tape.trans hb4.tape, hfr.output.trans hb4.output, Nat.le_trans hb4.size hfr.size, fun b hb => ?_⟩
    rw [hfr.block b (by omega) (fun e => by simp [Value.ownBlock] at e; omega)]
    exact hb4.block b hb
  clear fl hfr hov hown5 hgood hpw hM4 hJ4 hMb hT4 hown4 howne4 h04 h14 hold hb4 hz4 hblk hrz hown0 howne hTw hrg hso hb2 hb3 bld pfa hT
  have hPt : IntKind.i64.wrap ((P : Int) + (tj : Int)) = (P : Int) + (tj : Int) := by
    have : tj ≤ 64 := by rw [HTJ.out]; omega
    simp [IntKind.wrap, IntKind.signed, IntKind.bits]; omega
  go_upto_region 7 with (fail)
  go_cut [19] (fun v wd => v = .int .i64 (tj : Int) ∧ wd = w5)
  case first =>
    go_wp2_with fail
    go_meet
    exact ⟨rfl, rfl⟩
  case rest =>
    obtain ⟨rfl, hw⟩ := hcut
    rw [hw]
    clear hw
    rename_i hK
    refine hK _ _ ?_
    exact law_rest p q t pre rp rl rc d0 d1 c0 c1 w3.heap.size g w.heap.size (w.heap.size + 1) n j P tj tn cap a (minF n rl r) ps w w5 hRd hj7 hn7 hP2 ht HTJ HTN hb5 _ _ _ _ _ _ _ _ _ _ _ _ _ _ _ _ _ _ _ _ _ _ _ _ _ _ _ _ _ _ _ _ _ _ _ _ _ _ _ _ _ _ _ _ _ _ _ _ _ _ _ _ _ _ _ _ _ _ _ _ _ _ _ _ _ _ _ _ _ _ _ _ _ _ _ _ _ _ _ _ _ _ _ _ _ _ _ _ _ _ _ _ _ _ _ _ _ _ _ _ _ _ _ _ _ _ _ _ _ _ _ _ _ _ _ _ _ _ _ _ _ _ _ _ _ _ _ _ _ _ _ _ _ _ _ _ _ _ _ _ _ _ _ _ _ _ _ _ _ _ _ _ _ _ _ _ _ _ _ _ _ _ _ _ _ _ _ _ _ _ _ _ _ _ _ _ _ _ _ _ _ _ _ _ _ _ _ _

end Go.Proofs.YbulkafceFmt
