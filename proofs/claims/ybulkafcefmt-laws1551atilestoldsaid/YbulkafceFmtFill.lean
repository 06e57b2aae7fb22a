/-
  fill, walked.
-/
import Derived.Test.YbulkafceFmtFillM
namespace Go.Proofs.YbulkafceFmt
open Go.RowKit

theorem info44 : (Ybaf.prog.info? 44).map (fun i => (i.zero, i.size, i.bytes)) = some (some (.agg #[.int .i64 0, .int .i64 0, .int .i64 0, .int .i64 0]), 4, 32) := by kernel_rfl

theorem FM.keep44 {w w' : World} {B rb sb scap ob ocap oN : Nat} {R : Nat → Value} {S : Nat → En} {sz : Nat} {O : Nat → Option Nat} {j : Nat} (h : FM w B rb sb scap ob ocap oN R S sz O j)
    (hk : ∀ b, b < w.heap.size → (∀ cs : Array Value, w.heap[b]? ≠ some (.cells cs 44 (0, 0))) → w'.heap[b]? = w.heap[b]?) : FM w' B rb sb scap ob ocap oN R S sz O j :=
  ⟨h.room.keep (hk _ h.room.lt fun cs e => (h.ne44 e).1 rfl), h.seg.keep (hk _ h.seg.lt fun cs e => (h.ne44 e).2.1 rfl), h.opn.keep (hk _ h.opn.lt fun cs e => (h.ne44 e).2.2.1 rfl), fun x hx => own_keep (h.inner x hx) fun b hb => by
    obtain ⟨cur, hc⟩ := own_row (h.inner x hx) hb
    exact hk b (lt_heap hc) fun cs e => (h.ne44 e).2.2.2 x hx hb, h.apart, h.szc, h.scm, h.joc, h.Bb⟩

theorem shl_nat {c : Nat} (hc : c ≤ 6) : wrap64 ((2 : Int) ^ min c 64) = ((2 ^ c : Nat) : Int) := by
  have h : ∀ c : Fin 7, wrap64 ((2 : Int) ^ min c.val 64) = ((2 ^ c.val : Nat) : Int) := by decide +kernel
  exact h ⟨c, by omega⟩

theorem own_row4 {w : World} {B n : Nat} {v : Value} {xs : List Value} (h : w.ownsRow B 44 4 v n xs) {b : Nat} (hb : v.ownBlock = some b) : ∃ cur, w.heap[b]? = some (.cells cur 44 (0, 0)) := by
  rcases h.2 with ⟨rfl, _⟩ | ⟨g, cap, cur, rfl, _, hg, _⟩
  · cases hb
  · simp [Value.ownBlock] at hb
    subst hb
    exact ⟨cur, hg⟩

theorem own_keep4 {w w' : World} {B n : Nat} {v : Value} {xs : List Value} (h : w.ownsRow B 44 4 v n xs) (hk : ∀ b, v.ownBlock = some b → w'.heap[b]? = w.heap[b]?) : w'.ownsRow B 44 4 v n xs := by
  refine ⟨h.1, ?_⟩
  rcases h.2 with h0 | ⟨g, cap, cur, rfl, h1, hg, h2⟩
  · exact .inl h0
  · exact .inr ⟨g, cap, cur, rfl, h1, by rw [hk g rfl]; exact hg, h2⟩

set_option maxHeartbeats 8000000 in
set_option maxRecDepth 100000 in
theorem fill_any {B rb mb jb cm cj p0 : Nat} (n j : Nat) (t : Int) (v0 : Value) (xs : List Value) (jobs M : Nat → Nat) (w : World) (hj : j < 7) (hn : n < 7) (ht : -2147483648 ≤ t ∧ t ≤ 2147483647) (hp0 : p0 ≤ 2)
    (hr : Rw w rb 41 21 (fun k => 17 ≤ k ∧ k ≤ 20) zeroF) (hB : B ≤ rb) (h0 : 0 < B) (hT : TabAt 0 Lib.deBruijn64tab w) (hv00 : v0.ownBlock ≠ some 0)
    (hmb : mb < B ∧ v0.ownBlock ≠ some mb) (hjb : jb < B ∧ v0.ownBlock ≠ some jb) (hM : ∀ q, q < 2 ^ j → w.cell? ⟨mb, q, none⟩ = some (.int .i64 (M q : Int))) (hMb : ∀ q, 1 ≤ M q ∧ M q ≤ 2 ^ n)
    (hJ : ∀ q, q < 2 ^ j → w.cell? ⟨jb, q, none⟩ = some (.int .i64 (jobs q : Int)) ∧ jobs q < 2 ^ j) (hdec : ∀ q, q + 1 < 2 ^ j → M (jobs (q + 1)) ≤ M (jobs q)) (hown : w.ownsRow 0 44 4 v0 p0 xs) :
    Calls Ybaf.prog 7 #[.pointer (some ⟨rb, 0, none⟩), .int .i64 ((2 ^ n : Nat) : Int), .slice (some ⟨mb, 0, none⟩) (2 ^ j) cm, .slice (some ⟨jb, 0, none⟩) (2 ^ j) cj, .int .i64 t, v0] w fun e w' =>
      ∃ v ps, e = .returned v ∧ w'.ownsRow 0 44 4 v (p0 + 2 ^ j) (xs ++ pcs t jobs 0 ps) ∧ ps.length = 2 ^ j ∧ (∀ q p, ps[q]? = some p → Good n j (M (jobs q)) p) ∧ PwApart ps ∧
      (v.ownBlock = v0.ownBlock ∨ ∃ d, v.ownBlock = some d ∧ B ≤ d) ∧ FillF B v0 w w' := by
  have mixed := mixed
  have h64 : (2 : Nat) ^ j ≤ 2 ^ 6 := Nat.pow_le_pow_right (by decide) (by omega)
  have hn64 : (2 : Nat) ^ n ≤ 2 ^ 6 := Nat.pow_le_pow_right (by decide) (by omega)
  have l64 := len64_any (2 ^ n) (by omega)
  rw [bitLen_pow hn] at l64
  have rs := reset_any n j w hj hn hr hB h0 hT
  obtain ⟨tj, HTJ⟩ : ∃ v, Hid (v = (2 : Nat) ^ j) := ⟨_, rfl⟩
  obtain ⟨tn, HTN⟩ : ∃ v, Hid (v = (2 : Nat) ^ n) := ⟨_, rfl⟩
  rw [← HTN.out] at l64 rs ⊢
  rw [← HTJ.out] at rs ⊢
  have htj : tj ≤ 64 := by rw [HTJ.out]; omega
  have htn : tn ≤ 64 := by rw [HTN.out]; omega
  have w1 : IntKind.u64.wrap (tn : Int) = (tn : Int) := by simp [IntKind.wrap, IntKind.signed, IntKind.bits]; omega
  have w2 : IntKind.i64.wrap (((n + 1 : Nat) : Int) - 1) = (n : Int) := by simp [IntKind.wrap, IntKind.signed, IntKind.bits]; omega
  have w2' : IntKind.i64.wrap ((n : Int) + 1 - 1) = (n : Int) := by simp [IntKind.wrap, IntKind.signed, IntKind.bits]; omega
  go_enter Ybaf.func7, Ybaf.ntmps7
  go_wp2_with (go_at_call 8; refine (l64 _).mono ?_; rintro e w3 ⟨rfl, rfl⟩; refine Hid.out ?_)
  refine Lib.hid ?_
  go_wp2_with (go_at_call 9; refine rs.mono ?_; rintro e w4 ⟨rfl, ⟨sb, scap, ob, ocap, oN, R, S, O, hF, hSt, hsg⟩, hb4, hk4⟩; refine Hid.out ?_)
  refine Lib.hid ?_
  go_wp2
  have hg64 : ∀ q, M (jobs q) ≤ 2 ^ n := fun q => (hMb _).2
  have hFI : FI w3 w4 B rb ob ocap oN n j p0 t v0 xs jobs (fun q => M (jobs q)) 0 v0 := by
    refine ⟨⟨sb, scap, R, S, 1, [0], O, [], hF, hSt, ?_, ?_, Nat.le_refl _⟩, .inl rfl, (FillF.refl B v0 w3).below hb4⟩
    · rw [hsg, HTN.out]
      exact Plain.start hj hn hg64
    · simp only [pcs, List.append_nil, Nat.add_zero]
      refine own_keep4 hown fun b hb => ?_
      obtain ⟨cur, hc⟩ := own_row4 hown hb
      rw [hk4 b cur hc, hc]
  clear hF hSt hsg rs hb4 hk4 hr hown l64 w1 w2 w2'
  go_loopw [5, 36] (fun v i wr => ∃ k : Nat, k ≤ tj ∧ i = .int .i64 (k : Int) ∧ FI w3 wr B rb ob ocap oN n j p0 t v0 xs jobs (fun q => M (jobs q)) k v) (fun _ i _ => tj - (intOf i).toNat)
  case atStart => exact ⟨0, Nat.zero_le _, rfl, hFI⟩
  case round =>
    clear hFI
    rename_i v _
    obtain ⟨k, hk, rfl, hFI⟩ := hrel
    by_cases hkl : k < tj
    · obtain ⟨sb5, scap5, R5, S5, sz5, live, O5, ps, hF5, hSt5, hP5, hown5, hsz5⟩ := hFI.ex
      have hfr5 := hFI.fr
      have hov := hFI.own
      clear hFI
      have hkj : k < 2 ^ j := by rw [← HTJ.out]; exact hkl
      obtain ⟨cj0, hcj0, _⟩ := hP5.inv
      obtain ⟨x0, i, X, Y, hx0, hOi, hno, rfl, hio, hdx, hmax⟩ := next_seg hcj0 hSt5 hkj
      have hsgE : sgs S5 (X ++ i :: Y) = sgs S5 X ++ (S5 i).sg :: sgs S5 Y := by simp [sgs]
      have hP5' := hP5
      rw [hsgE] at hP5'
      obtain ⟨st1, st2, st3, st4, ⟨c6, hI6⟩, hP6⟩ := hP5'.step hj hn hkj hg64 (fun h => hdec k h) hio hmax
      have hD5 := hcj0.dist hSt5.ch
      have hi5 : i < sz5 := hSt5.ch.lt i (by simp)
      have cjk := hfr5.cell (o := k) hjb.1 hjb.2 (hJ k hkj).1
      have cmk := hfr5.cell (o := jobs k) hmb.1 hmb.2 (hM (jobs k) (hJ k hkj).2)
      have hjl : jobs k < tj := by rw [HTJ.out]; exact (hJ k hkj).2
      have hT5 : TabAt 0 Lib.deBruijn64tab wr := fun q hq => (World.cell?_of_block (hfr5.block 0 h0 hv00)).trans (hT q hq)
      have hMk := hMb (jobs k)
      obtain ⟨jk, HJK⟩ : ∃ v, Hid (v = jobs k) := ⟨_, rfl⟩
      rw [← HJK.out] at cjk cmk hjl hMk
      obtain ⟨m, HM⟩ : ∃ v, Hid (v = M jk - 1) := ⟨_, rfl⟩
      have hm1 : (M jk : Int) = (m : Int) + 1 := by rw [HM.out]; omega
      have hm64 : m ≤ 63 := by rw [HM.out]; omega
      rw [hm1] at cmk
      have hgk : m = M (jobs k) - 1 := by rw [HM.out, HJK.out]
      have l64 := len64_any m (by omega)
      obtain ⟨c, HC⟩ : ∃ v, Hid (v = Lib.bitLen m) := ⟨_, rfl⟩
      rw [← HC.out] at l64
      have hgc : Lib.bitLen (M (jobs k) - 1) = c := by rw [HC.out, hgk]
      rw [hgc] at st1 st2 st3 hI6 hP6
      have ms := minSeg_any x0 i wr hj hF5 hx0 hOi hno
      have hkl' : (k : Int) < (tj : Int) := by omega
      have hjl' : (jk : Int) < (tj : Int) := by omega
      have w3a : IntKind.i64.wrap ((m : Int) + 1 - 1) = (m : Int) := by simp [IntKind.wrap, IntKind.signed, IntKind.bits]; omega
      have w3b : IntKind.u64.wrap (m : Int) = (m : Int) := by simp [IntKind.wrap, IntKind.signed, IntKind.bits]; omega
      clear hm1 hMk hgk
      go_wp2_with (go_at_call 10; refine ms.mono ?_; rintro e w5 ⟨rfl, hq5⟩; refine Hid.out ?_)
      refine Lib.hid ?_
      have cmk5 := hq5.cell cmk
      go_wp2_with (go_at_call 8; refine (l64 _).mono ?_; rintro e w6 ⟨rfl, hw6⟩; subst hw6; refine Hid.out ?_)
      refine Lib.hid ?_
      have hF6 := hF5.quiet hq5
      have r20 := hF6.roomCell.2.2.2
      clear ms l64
      go_upto_if 62 with (fail)
      have hwid : wid n j c (S5 i).sg.h = max c (n + x0 - j) := by
        unfold wid
        rw [show dep j (S5 i).sg.h = x0 from hdx]
      rw [hwid] at st1 st2 st3 hI6 hP6
      obtain ⟨wd, HWD⟩ : ∃ v, Hid (v = max c (n + x0 - j)) := ⟨_, rfl⟩
      rw [← HWD.out] at st1 st2 st3 hI6 hP6
      have hc6 : c ≤ wd ∧ n + x0 - j ≤ wd := by rw [HWD.out]; omega
      clear hwid hmax hsgE hP5' hdx
      go_cut [19, 20] (fun v _ w' => v = .int .i64 ((2 ^ wd : Nat) : Int) ∧ w' = w6)
      case first =>
        by_cases he : 0 < n + x0 - j
        · obtain ⟨ed, HED⟩ : ∃ v, Hid (v = n + x0 - j) := ⟨_, rfl⟩
          have hE : (n : Int) - (j : Int) + (x0 : Int) = (ed : Int) := by rw [HED.out]; omega
          have he0 : (0 : Int) < (ed : Int) := by rw [HED.out]; omega
          go_wp2_with fail
          go_meet
          have hed6 : ed ≤ 6 := by rw [HED.out]; omega
          have e1 : wrap64 ((2 : Int) ^ ed) = ((2 ^ ed : Nat) : Int) := by
            have := shl_nat hed6
            rw [show min ed 64 = ed by omega] at this
            exact this
          have e2 : max ((2 ^ c : Nat) : Int) ((2 ^ ed : Nat) : Int) = ((2 ^ wd : Nat) : Int) := by
            have hw : wd = max c ed := by rw [HWD.out, HED.out]
            rcases Nat.le_total c ed with h1 | h1
            · rw [hw, Nat.max_eq_right h1]
              have := Nat.pow_le_pow_right (n := 2) (by decide) h1
              omega
            · rw [hw, Nat.max_eq_left h1]
              have := Nat.pow_le_pow_right (n := 2) (by decide) h1
              omega
          rw [shl_nat (show c ≤ 6 by omega), e1, e2]
          exact ⟨rfl, rfl⟩
        · have hE : ¬ ((0 : Int) < (n : Int) - (j : Int) + (x0 : Int)) := by omega
          go_wp2_with fail
          go_meet
          have e0 : wd = c := by rw [HWD.out]; omega
          rw [shl_nat (by omega), e0]
          exact ⟨rfl, rfl⟩
      case rest =>
        obtain ⟨rfl, hw⟩ := hcut
        rw [hw]
        clear hw cmk cmk5 cjk
        have r17 := hF6.roomCell.1
        have s0 := hF6.segCell hi5 (k := 0) (by omega)
        have s1 := hF6.segCell hi5 (k := 1) (by omega)
        have s2 := hF6.segCell hi5 (k := 2) (by omega)
        have s3 := hF6.segCell hi5 (k := 3) (by omega)
        have s4 := hF6.segCell hi5 (k := 4) (by omega)
        have s5 := hF6.segCell hi5 (k := 5) (by omega)
        simp only [fld, Nat.add_zero] at s0 s1 s2 s3 s4 s5
        have hil : (i : Int) < (sz5 : Int) := by omega
        have hX0 := hF6.six (S5 i)
        obtain ⟨i44, hi44, hz44, hs44, hb44⟩ := info_parts info44
        have hfrA : FillF B v0 w3 (w6.alloc (.cells (sixA (S5 i)) 56)) := (hfr5.below (hq5.below B)).below ((Below.refl B w6).alloc (by have := hF6.Bb.1; have := hF6.room.lt; omega) _)
        have hownA : (w6.alloc (.cells (sixA (S5 i)) 56)).ownsRow 0 44 4 u5 (p0 + k) (xs ++ pcs t jobs 0 ps) := own_keep4 hown5 fun b hb => by
          obtain ⟨cur, hc⟩ := own_row4 hown5 hb
          have := lt_heap hc
          rw [Below.heap_alloc _ _ _ (by rw [hq5.heap]; exact this), hq5.heap]
        go_upto_region 13 with (fail)
        obtain ⟨wa, HWA⟩ : ∃ wa, Hid (wa = w6.alloc (.cells (sixA (S5 i)) 56)) := ⟨_, rfl⟩
        have e6 : sixA (S5 i) = #[.int .i64 ((S5 i).f : Int), .int .i64 ((S5 i).n : Int), .int .i64 ((S5 i).h : Int), .int .i64 (S5 i).p, .int .i64 (S5 i).x, .int .i64 (S5 i).sl] := rfl
        rw [← e6, ← HWA.out]
        rw [← HWA.out] at hX0 hfrA hownA
        clear HWA e6 s0 s1 s2 s3 s4 s5 r17 r20
        obtain ⟨n1, HN1⟩ : ∃ n1, Hid (n1 = w6.heap.size) := ⟨_, rfl⟩
        rw [← HN1.out] at hX0 ⊢
        obtain ⟨fI, HfI⟩ : ∃ v, Hid (v = (S5 i).f) := ⟨_, rfl⟩
        obtain ⟨hI, HhI⟩ : ∃ v, Hid (v = (S5 i).h) := ⟨_, rfl⟩
        obtain ⟨W, HW⟩ : ∃ v : Nat, Hid (v = 2 ^ wd) := ⟨_, rfl⟩
        obtain ⟨T, HTT⟩ : ∃ v : Nat, Hid (v = 2 ^ (n - wd)) := ⟨_, rfl⟩
        rw [← HW.out, ← HTT.out] at hI6 hP6
        rw [← HW.out] at st1 ⊢
        rw [← HTT.out] at st3
        have k0 : wa.cell? ⟨n1, 0, none⟩ = some (.int .i64 (fI : Int)) := by rw [HfI.out]; exact hX0.copy (by omega)
        have k2 : wa.cell? ⟨n1, 2, none⟩ = some (.int .i64 (hI : Int)) := by rw [HhI.out]; exact hX0.copy (by omega)
        have hh64 : hI ≤ 64 := by rw [HhI.out]; omega
        have c3 : IntKind.i64.wrap (t + (hI : Int)) = t + (hI : Int) := by simp [IntKind.wrap, IntKind.signed, IntKind.bits]; omega
        have hFb := hX0.fm.alloc (.cells #[.int .i64 (jk : Int), .int .i64 (W : Int), .int .i64 (fI : Int), .int .i64 (t + (hI : Int))] 44)
        have hownB : (wa.alloc (.cells #[.int .i64 (jk : Int), .int .i64 (W : Int), .int .i64 (fI : Int), .int .i64 (t + (hI : Int))] 44)).ownsRow 0 44 4 u5 (p0 + k) (xs ++ pcs t jobs 0 ps) := hownA.alloc _
        have hBa : B ≤ wa.heap.size := by have := hX0.fm.Bb.1; have := hX0.fm.room.lt; omega
        have hfrB : FillF B v0 w3 (wa.alloc (.cells #[.int .i64 (jk : Int), .int .i64 (W : Int), .int .i64 (fI : Int), .int .i64 (t + (hI : Int))] 44)) := hfrA.below ((Below.refl B wa).alloc hBa _)
        have hnews : ∀ q u, (four jk t ⟨fI, W, hI, hI + T⟩)[q]? = some u → (wa.alloc (.cells #[.int .i64 (jk : Int), .int .i64 (W : Int), .int .i64 (fI : Int), .int .i64 (t + (hI : Int))] 44)).cell? (Addr.add ⟨wa.heap.size, 0, none⟩ q) = some u := by
          intro q u hq
          match q, hq with
          | 0, hq => simp [four] at hq; simp [Addr.add, ← hq]
          | 1, hq => simp [four] at hq; simp [Addr.add, ← hq]
          | 2, hq => simp [four] at hq; simp [Addr.add, ← hq]
          | 3, hq => simp [four] at hq; simp [Addr.add, ← hq]
          | q + 4, hq => simp [four] at hq
        have hm1 : p0 + k + 1 ≤ maxLen := by unfold maxLen; omega
        have hm2 : (p0 + k + 1) * 32 ≤ 140737488355328 := by omega
        have hm3 : 0 ≤ (wa.alloc (.cells #[.int .i64 (jk : Int), .int .i64 (W : Int), .int .i64 (fI : Int), .int .i64 (t + (hI : Int))] 44)).heap.size := Nat.zero_le _
        clear hX0 hfrA hownA
        go_wp2_with (at_builtin; refine wpList_appN _ rfl _ _ 27 rfl 0 44 i44 _ 4 32 Ybaf.underlying27 hi44 hz44 hs44 hb44 rfl (by decide) u5 (p0 + k) (xs ++ pcs t jobs 0 ps) rfl hownB ⟨wa.heap.size, 0, none⟩ 1 (four jk t ⟨fI, W, hI, hI + T⟩) rfl rfl hnews (four_one _ _ _) hm1 hm2 hm3 ?_; intro v' w7 hown7 hg7 hf7; refine Hid.out ?_)
        refine Lib.hid ?_
        have hW0 : 0 < W := by rw [HW.out]; exact pow_pos2 _
        have hW0' : ¬ (W : Int) = 0 := by omega
        have hWT : tn = W * T := by rw [HTN.out, HW.out, HTT.out, ← Nat.pow_add]; congr 1; omega
        have hT64 : T ≤ 64 := by
          have : T ≤ W * T := Nat.le_mul_of_pos_left _ hW0
          omega
        have hquo : (tn : Int).tdiv (W : Int) = (T : Int) := by rw [hWT, Int.natCast_mul]; exact Int.mul_tdiv_cancel_left _ hW0'
        clear hWT
        have hF7 : FM w7 B rb sb5 scap5 ob ocap oN R5 S5 sz5 O5 j := hFb.keep44 fun b hb hcs => hg7.block b hb fun e => by
          obtain ⟨cur, hc⟩ := own_row4 hownB e.symm
          exact hcs cur hc
        have hov7 : v'.ownBlock = v0.ownBlock ∨ ∃ d, v'.ownBlock = some d ∧ B ≤ d := by
          rcases hf7 with e | ⟨d, e, hge⟩
          · rw [e]; exact hov
          · refine .inr ⟨d, e, ?_⟩
            simp at hge
            omega
        have hfr7 : FillF B v0 w3 w7 := hfrB.grown (by simp; omega) hov hg7
        have hT7 : TabAt 0 Lib.deBruijn64tab w7 := fun q hq => (World.cell?_of_block (hfr7.block 0 h0 hv00)).trans (hT q hq)
        have hst4 : (S5 i).f + (S5 i).n ≤ 2 ^ n := st4
        have rz := raise_any X Y i W T w7 hj hn hF7 hSt5 hD5 hio (by omega) hT7 h0 st1 (by omega) (by omega) st3 hI6
        clear hF7 hFb hownB hfrB hnews hT7 hF6 hF5
        go_wp2_with (go_at_call 11; refine rz.mono ?_; rintro e w8 ⟨rfl, hpost, hb8, hk8⟩; refine Hid.out ?_)
        refine Lib.hid ?_
        have hk1 : IntKind.i64.wrap ((k : Int) + 1) = (k : Int) + 1 := by simp [IntKind.wrap, IntKind.signed, IntKind.bits]; omega
        go_wp2
        go_roundw
        case rel =>
          obtain ⟨R', sb', scap', S', sz', live', O', g1, g2, g3, g4⟩ := hpost
          refine ⟨k + 1, by omega, by go_num, ⟨⟨sb', scap', R', S', sz', live', O', _, g1, g2, by rw [g3]; exact hP6, ?_, by omega⟩, hov7, hfr7.below hb8⟩⟩
          rw [pcs_snoc, ← List.append_assoc]
          have hlen : 0 + ps.length = k := by rw [hP5.len]; omega
          rw [hlen, ← HJK.out]
          have hfour : four jk t ⟨(S5 i).sg.f, W, (S5 i).sg.h, (S5 i).sg.h + T⟩ = four jk t ⟨fI, W, hI, hI + T⟩ := by rw [HfI.out, HhI.out]; rfl
          rw [hfour]
          exact own_keep4 hown7 fun b hb => by
            obtain ⟨cur, hc⟩ := own_row4 hown7 hb
            rw [hk8 b cur hc, hc]
        case measure => simp [intOf]; omega
    · have hke : ¬ ((k : Int) < (tj : Int)) := by omega
      obtain rfl : k = tj := by omega
      go_wp2
      go_ret
      obtain ⟨sb5, scap5, R5, S5, sz5, live, O5, ps, hF5, hSt5, hP5, hown5, _⟩ := hFI.ex
      exact ⟨_, rfl, ps, hown5, hP5.len, hP5.good, hP5.apart.two, hFI.own, hFI.fr⟩

end Go.Proofs.YbulkafceFmt
