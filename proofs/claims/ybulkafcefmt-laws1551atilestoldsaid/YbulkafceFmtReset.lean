/-
  reset, walked, on a frontier that holds nothing.
-/
import Derived.Test.YbulkafceFmtRaiseM
namespace Go.Proofs.YbulkafceFmt
open Go.RowKit

theorem info56' : (Ybaf.prog.info? 56).map (fun i => (i.zero, i.size, i.bytes)) = some (some (.agg #[.int .i64 0, .int .i64 0, .int .i64 0, .int .i64 0, .int .i64 0, .int .i64 0]), 6, 48) := by kernel_rfl
theorem info24 : (Ybaf.prog.info? 24).map (fun i => (i.zero, i.size, i.bytes)) = some (some (.slice none 0 0), 1, 24) := by kernel_rfl

theorem bitLen_pow {j : Nat} (hj : j < 7) : Lib.bitLen (2 ^ j) = j + 1 := by
  have h : ∀ j : Fin 7, Lib.bitLen (2 ^ j.val) = j.val + 1 := by decide +kernel
  exact h ⟨j, hj⟩

theorem len_any (j : Nat) (hj : j < 7) (w : World) : Calls Ybaf.prog 12 #[.int .u64 ((2 ^ j : Nat) : Int)] w fun e w' => e = .returned (.int .i64 ((j : Int) + 1)) ∧ w' = w := by
  have h64 : (2 : Nat) ^ j ≤ 2 ^ 6 := Nat.pow_le_pow_right (by decide) (by omega)
  refine (Any.bits_Len Ybaf.lays125 ((2 ^ j : Nat) : Int) w (Int.natCast_nonneg _) (by omega)).mono ?_
  rintro e w' ⟨rfl, rfl⟩
  refine ⟨?_, rfl⟩
  rw [Int.toNat_natCast, bitLen_pow hj]
  rfl

theorem grow_any (m : Nat) (hm : 0 < m) (hm7 : m ≤ 7) (w : World) : Calls Ybaf.prog 13 #[.slice none 0 0, .int .i64 (m : Int)] w fun e w' =>
    ∃ cap, m ≤ cap ∧ e = .returned (.slice (some ⟨w.heap.size, 0, none⟩) 0 cap) ∧ w' = w.drew.alloc (.cells (Array.replicate cap (.slice none 0 0)) 24) := by
  obtain ⟨i0, hi0, hz0, hs0, hb0⟩ := info_parts info24
  refine (Any8.slices_Grow_grow Ybaf.growO i0 (.slice none 0 0) hi0 hz0 (by rw [hs0]; decide) none 0 0 m [] w (Nat.le_refl _) (by omega) (by rw [hb0]; omega) (by omega) (by simp) (fun _ => rfl) (fun a h => by cases h)).mono ?_
  rintro e w' ⟨rfl, rfl⟩
  have hge := grownCap_ge w (0 + m) 0 24
  refine ⟨grownCap w (0 + m) 0 24, by omega, rfl, ?_⟩
  congr 2
  have ht : Ybaf.growO_ren.t 25 = 24 := rfl
  simp only [ht]
  rw [Nat.zero_add] at hge ⊢
  generalize grownCap w m 0 24 = cap at hge
  have hc : ∀ q, Builtin.zeroCells (Value.slice none 0 0).cells q = Array.replicate q (Value.slice none 0 0) := fun q => by
    refine Array.ext (by simp [Builtin.zeroCells, Value.cells]) fun k h1 h2 => ?_
    simp [Builtin.zeroCells, Value.cells, Nat.mod_one]
  rw [hc, hc, Nat.sub_zero]
  refine Array.ext (by simp; omega) fun k h1 h2 => ?_
  simp

/-- The room before the first use. -/
def zeroF : Nat → Value
  | 17 => .slice none 0 0
  | 18 => .slice none 0 0
  | _ => .int .i64 0

def e0 (n : Nat) : En := ⟨0, 2 ^ n, 0, -1, -1, 0⟩

set_option maxHeartbeats 4000000 in
set_option maxRecDepth 100000 in
theorem reset_any {B rb : Nat} (n j : Nat) (w : World) (hj : j < 7) (hn : n < 7) (hr : Rw w rb 41 21 (fun k => 17 ≤ k ∧ k ≤ 20) zeroF) (hB : B ≤ rb) (h0 : 0 < B) (hT : TabAt 0 Lib.deBruijn64tab w) :
    Calls Ybaf.prog 9 #[.pointer (some ⟨rb, 17, none⟩), .int .i64 ((2 ^ n : Nat) : Int), .int .i64 ((2 ^ j : Nat) : Int)] w fun e w' => e = .returned (.tuple #[]) ∧
      (∃ sb scap ob ocap oN R S O, FM w' B rb sb scap ob ocap oN R S 1 O j ∧ St j S 1 [0] O ∧ sgs S [0] = [⟨0, 2 ^ n, 0⟩]) ∧ Below B w w' ∧ K44 w w' := by
  have mixed := mixed
  have h64 : (2 : Nat) ^ j ≤ 2 ^ 6 := Nat.pow_le_pow_right (by decide) (by omega)
  have hn64 : (2 : Nat) ^ n ≤ 2 ^ 6 := Nat.pow_le_pow_right (by decide) (by omega)
  have len := len_any j hj
  obtain ⟨i56, hi56, hz56, hs56, hb56⟩ := info_parts info56'
  have c17 := hr.cell (k := 17) ⟨by omega, by omega⟩
  have c19 := hr.cell (k := 19) ⟨by omega, by omega⟩
  have c20 := hr.cell (k := 20) ⟨by omega, by omega⟩
  simp only [zeroF] at c17 c19 c20
  have f19 := hr.free 19
  have f20 := hr.free 20
  have f17 := hr.free 17
  obtain ⟨tp, HTP⟩ : ∃ v, Hid (v = (2 : Nat) ^ j) := ⟨_, rfl⟩
  obtain ⟨tn, HTN⟩ : ∃ v, Hid (v = (2 : Nat) ^ n) := ⟨_, rfl⟩
  rw [← HTP.out] at len ⊢
  rw [← HTN.out] at ⊢
  have hr1 := ((hr.set (l := 19) ⟨by omega, by omega⟩ (.int .i64 (tp : Int))).set (l := 20) ⟨by omega, by omega⟩ (.int .i64 (j : Int)))
  have hb1 : Below B w ((w.setCell ⟨rb, 19, none⟩ (.int .i64 (tp : Int))).setCell ⟨rb, 20, none⟩ (.int .i64 (j : Int))) := ((Below.refl B w).setCell hB _).setCell hB _
  have hk1 : K44 w ((w.setCell ⟨rb, 19, none⟩ (.int .i64 (tp : Int))).setCell ⟨rb, 20, none⟩ (.int .i64 (j : Int))) := by
    intro d cs hd
    have hne : d ≠ rb := fun e => by
      obtain ⟨c, hc, _⟩ := hr
      subst e
      rw [hd] at hc
      simp at hc
    rw [Below.heap_setCell _ _ _ _ hne, Below.heap_setCell _ _ _ _ hne]
    exact hd
  have htp : tp ≤ 64 := by rw [HTP.out]; omega
  have htn : tn ≤ 64 := by rw [HTN.out]; omega
  have w1 : IntKind.u64.wrap (tp : Int) = (tp : Int) := by simp [IntKind.wrap, IntKind.signed, IntKind.bits]; omega
  have w2 : IntKind.i64.wrap ((j : Int) + 1 - 1) = (j : Int) := by simp [IntKind.wrap, IntKind.signed, IntKind.bits]; omega
  go_enter Ybaf.func9, Ybaf.ntmps9
  go_wp2_with (go_at_call 12; refine (len _).mono ?_; rintro e w3 ⟨rfl, rfl⟩; refine Hid.out ?_)
  refine Lib.hid ?_
  go_upto_region 1 with (fail)
  clear len w1 w2 c17 c19 c20 f19 f20 f17
  rename_i wx
  obtain ⟨wr, HWR⟩ : ∃ wr, Hid (wr = (w3.setCell ⟨rb, 19, none⟩ (.int .i64 (tp : Int))).setCell ⟨rb, 20, none⟩ (.int .i64 (j : Int))) := ⟨_, rfl⟩
  rw [← HWR.out] at hr1 hb1 hk1 ⊢
  clear HWR
  have c17 := hr1.cell (k := 17) ⟨by omega, by omega⟩
  simp [upd, zeroF] at c17
  have c17a : ∀ o, (wr.alloc o).cell? ⟨rb, 17, none⟩ = some (.slice none 0 0) := fun o => by
    have := (hr1.alloc o).cell (k := 17) ⟨by omega, by omega⟩
    simpa [upd, zeroF] using this
  have hrlt := hr1.lt
  have hnews : ∀ q u, (six (e0 n))[q]? = some u → (wr.alloc (.cells #[.int .i64 0, .int .i64 (tn : Int), .int .i64 0, .int .i64 (-1), .int .i64 (-1), .int .i64 0] 56)).cell? (Addr.add ⟨wr.heap.size, 0, none⟩ q) = some u := by
    intro q u hq
    match q, hq with
    | 0, hq => simp [six, fld, e0] at hq; simp [Addr.add, ← hq]
    | 1, hq => simp [six, fld, e0] at hq; simp [Addr.add, ← hq, HTN.out]
    | 2, hq => simp [six, fld, e0] at hq; simp [Addr.add, ← hq]
    | 3, hq => simp [six, fld, e0] at hq; simp [Addr.add, ← hq]
    | 4, hq => simp [six, fld, e0] at hq; simp [Addr.add, ← hq]
    | 5, hq => simp [six, fld, e0] at hq; simp [Addr.add, ← hq]
    | q + 6, hq => simp [six] at hq
  have hra := hr1.alloc (.cells #[.int .i64 0, .int .i64 (tn : Int), .int .i64 0, .int .i64 (-1), .int .i64 (-1), .int .i64 0] 56)
  have hba : Below B w3 (wr.alloc (.cells #[.int .i64 0, .int .i64 (tn : Int), .int .i64 0, .int .i64 (-1), .int .i64 (-1), .int .i64 0] 56)) := hb1.alloc (by omega) _
  have hka : K44 w3 (wr.alloc (.cells #[.int .i64 0, .int .i64 (tn : Int), .int .i64 0, .int .i64 (-1), .int .i64 (-1), .int .i64 0] 56)) := fun d cs hd => by
    have := hk1 d cs hd
    rw [Below.heap_alloc _ _ _ (lt_heap this)]
    exact this
  have hm3 : B ≤ (wr.alloc (.cells #[.int .i64 0, .int .i64 (tn : Int), .int .i64 0, .int .i64 (-1), .int .i64 (-1), .int .i64 0] 56)).heap.size := by simp; omega
  have hm1 : 0 + 1 ≤ maxLen := by unfold maxLen; omega
  have hm2 : (0 + 1) * 48 ≤ 140737488355328 := by omega
  go_wp2_with (at_builtin; refine wpList_appN _ rfl _ _ 36 rfl B 56 i56 _ 6 48 Ybaf.underlying36 hi56 hz56 hs56 hb56 rfl (by decide) (.slice none 0 0) 0 [] rfl (World.ownsRow_nil _ _ _ _) ⟨wr.heap.size, 0, none⟩ 1 (six (e0 n)) rfl rfl hnews (six_one _) hm1 hm2 hm3 ?_; intro v' w4 hown hg hf; refine Hid.out ?_)
  refine Lib.hid ?_
  have gb : ∀ d, d < (wr.alloc (.cells #[.int .i64 0, .int .i64 (tn : Int), .int .i64 0, .int .i64 (-1), .int .i64 (-1), .int .i64 0] 56)).heap.size → w4.heap[d]? = (wr.alloc (.cells #[.int .i64 0, .int .i64 (tn : Int), .int .i64 0, .int .i64 (-1), .int .i64 (-1), .int .i64 0] 56)).heap[d]? := fun d hd => hg.block d hd (fun e => by simp [Value.ownBlock] at e)
  have hr4 := hra.keep (gb rb hra.lt)
  have hb4 : Below B w3 w4 := hba.grown hg hm3 (fun k hk => by simp [Value.ownBlock] at hk)
  have hk4 : K44 w3 w4 := fun d cs hd => by
    have := hka d cs hd
    rw [gb d (lt_heap this)]
    exact this
  rcases hown.2 with ⟨_, h1⟩ | ⟨sb, scap, cur, rfl, hBg, hgr, hnc, hcm, hcs, htake⟩
  · omega
  have c17' := hr4.cell (k := 17) ⟨by omega, by omega⟩
  simp [upd, zeroF] at c17'
  have f17 := hr4.free 17
  have hsegr : Rw w4 sb 56 (scap * 6) (fun q => q < 1 * 6) (fun q => fld ((fun _ => e0 n) (q / 6)) (q % 6)) := by
    refine ⟨cur, hgr, hcs, fun q hq => ?_⟩
    have hlt : q < 1 * 6 := hq
    have h1 : (cur.toList.take ((0 + 1) * 6))[q]? = cur[q]? := by rw [List.getElem?_take, if_pos (by omega), Array.getElem?_toList]
    rw [← h1, htake, List.nil_append, six_at _ _ (by omega)]
    show _ = some (fld (e0 n) (q % 6))
    rw [show q % 6 = q by omega]
  have hrs : rb ≠ sb := hr4.ne hsegr (by decide)
  have hr5 := hr4.set (l := 17) ⟨by omega, by omega⟩ (.slice (some ⟨sb, 0, none⟩) 1 scap)
  have hs5 := hsegr.setOther (c := rb) (o := 17) hrs.symm (.slice (some ⟨sb, 0, none⟩) 1 scap)
  have hb5 : Below B w3 (w4.setCell ⟨rb, 17, none⟩ (.slice (some ⟨sb, 0, none⟩) 1 scap)) := hb4.setCell hB _
  have hne44 : ∀ (W : World) (F : Nat → Value), Rw W rb 41 21 (fun k => 17 ≤ k ∧ k ≤ 20) F → ∀ (d : Nat) (cs : Array Value), W.heap[d]? = some (.cells cs 44 (0, 0)) → d ≠ rb := fun W F hR d cs hd e => by
    obtain ⟨c, hc, _⟩ := hR
    subst e
    rw [hd] at hc
    simp at hc
  have hk5 : K44 w3 (w4.setCell ⟨rb, 17, none⟩ (.slice (some ⟨sb, 0, none⟩) 1 scap)) := fun d cs hd => by
    have := hk4 d cs hd
    rw [Below.heap_setCell _ _ _ _ (hne44 _ _ hr4 d cs this)]
    exact this
  clear hra hba hka hm3 hnews c17 c17a hown hg hf htake hcs hgr gb hr1 hb1 hk1 hi56 hz56 hs56 hb56
  go_upto_region 2 with (fail)
  obtain ⟨w5, HW5⟩ : ∃ w5, Hid (w5 = w4.setCell ⟨rb, 17, none⟩ (.slice (some ⟨sb, 0, none⟩) 1 scap)) := ⟨_, rfl⟩
  have hsp : (0 + 1 : Nat) = 1 := rfl
  try rw [hsp]
  rw [← HW5.out] at hr5 hs5 hb5 hk5 ⊢
  clear HW5 hr4 hsegr hb4 hk4 c17' f17
  have c18 := hr5.cell (k := 18) ⟨by omega, by omega⟩
  have c20 := hr5.cell (k := 20) ⟨by omega, by omega⟩
  simp [upd, zeroF] at c18 c20
  have f18 := hr5.free 18
  have gr : ∀ W, Calls Ybaf.prog 13 #[.slice none 0 0, .int .i64 ((j : Int) + 1)] W fun e w' => ∃ cap, j + 1 ≤ cap ∧ e = .returned (.slice (some ⟨W.heap.size, 0, none⟩) 0 cap) ∧ w' = W.drew.alloc (.cells (Array.replicate cap (.slice none 0 0)) 24) := fun W => grow_any (j + 1) (by omega) (by omega) W
  have hj1 : IntKind.i64.wrap ((j : Int) + 1) = (j : Int) + 1 := by simp [IntKind.wrap, IntKind.signed, IntKind.bits]; omega
  have hB5 : B ≤ w5.heap.size := by have := hr5.lt; omega
  have gr5 : Calls Ybaf.prog 13 #[.slice none 0 0, .int .i64 ((j : Int) + 1)] w5.drew fun e w6 => ∃ cap, j + 1 ≤ cap ∧ e = .returned (.slice (some ⟨w5.heap.size, 0, none⟩) 0 cap) ∧ w6.cell? ⟨rb, 18, none⟩ = some (.slice none 0 0) ∧ w6.cell? ⟨rb, 20, none⟩ = some (.int .i64 (j : Int)) ∧ w6.frozen? ⟨rb, 18, none⟩ = false ∧ (j : Int) + 1 ≤ (cap : Int) ∧ Hid (w6 = w5.drew.drew.alloc (.cells (Array.replicate cap (.slice none 0 0)) 24)) := by
    refine (gr w5.drew).mono ?_
    rintro e w6 ⟨cap, hcap, rfl, hw6⟩
    have hr6 := hr5.keep (w' := w6) (by rw [hw6]; exact Below.heap_alloc _ _ _ hr5.lt)
    have c18' := hr6.cell (k := 18) ⟨by omega, by omega⟩
    have c20' := hr6.cell (k := 20) ⟨by omega, by omega⟩
    have f18' := hr6.free 18
    simp [upd, zeroF] at c18' c20'
    exact ⟨cap, hcap, rfl, c18', c20', f18', by omega, hw6⟩
  clear gr
  go_cut [] (fun wd => ∃ ob ocap, j + 1 ≤ ocap ∧ B ≤ ob ∧ Rw wd rb 41 21 (fun k => 17 ≤ k ∧ k ≤ 20) (roomF sb 1 scap ob ocap j) ∧ Rw wd sb 56 (scap * 6) (fun q => q < 1 * 6) (fun q => fld ((fun _ => e0 n) (q / 6)) (q % 6)) ∧ Rw wd ob 24 ocap (fun x => x ≤ j) (fun _ => .slice none 0 0) ∧ Below B w3 wd ∧ K44 w3 wd)
  case first =>
    go_region_with (go_at_call 13; refine gr5.mono ?_; rintro e w6 ⟨cap, hcap, rfl, c18', c20', f18', hcap', HW6⟩)
    all_goals
      go_wp2_with fail
      go_meet
      have hw6 := HW6.out
      have hr6 := hr5.keep (w' := w6) (by rw [hw6]; exact Below.heap_alloc _ _ _ hr5.lt)
      have hob : Rw w6 w5.heap.size 24 cap (fun x => x ≤ j) (fun _ => .slice none 0 0) := ⟨Array.replicate cap (.slice none 0 0), by rw [hw6]; exact heap_alloc_new _ _, by simp, fun k hk => by rw [Array.getElem?_replicate, if_pos (by have : k ≤ j := hk; omega)]⟩
      have hs6 := hs5.keep (w' := w6) (by rw [hw6]; exact Below.heap_alloc _ _ _ hs5.lt)
      have n2 : rb ≠ w5.heap.size := by have := hr5.lt; omega
      refine ⟨w5.heap.size, cap, hcap, hB5, (hr6.set (l := 18) ⟨by omega, by omega⟩ _).congr fun k hk => ?_, hs6.setOther hrs.symm _, hob.setOther n2.symm _, ?_, fun d cs hd => ?_⟩
      · obtain ⟨hk1, hk2⟩ := hk
        rcases (show k = 17 ∨ k = 18 ∨ k = 19 ∨ k = 20 by omega) with rfl | rfl | rfl | rfl
        · simp [upd, roomF]
        · simp [upd, roomF]
        · simp [upd, roomF, HTP.out]
        · simp [upd, roomF]
      · refine Below.setCell ?_ hB _
        rw [hw6]
        exact (hb5.drew.drew).alloc hB5 _
      · have h1 := hk5 d cs hd
        rw [Below.heap_setCell _ _ _ _ (hne44 _ _ hr5 d cs h1), hw6]
        exact (Below.heap_alloc _ _ _ (lt_heap h1)).trans h1
  case rest =>
    obtain ⟨ob, ocap, hoc, hBo, hR7, hS7, hO7, hb7, hk7⟩ := hcut
    clear hr5 hs5 hb5 hk5 c18 c20 f18 gr5 hj1
    have r18 : wc.cell? ⟨rb, 18, none⟩ = some (.slice (some ⟨ob, 0, none⟩) (j + 1) ocap) := hR7.cell (k := 18) ⟨by omega, by omega⟩
    go_wp2
    go_loopw [55] (fun v wr => ∃ x : Nat, x ≤ j + 1 ∧ v = .int .i64 (x : Int) ∧ Quiet wc wr) (fun v _ => (j + 1) - (intOf v).toNat)
    case atStart => exact ⟨0, by omega, rfl, Quiet.refl _⟩
    case round =>
      obtain ⟨x, hx, rfl, hq⟩ := hrel
      have r18' := hq.cell r18
      by_cases hxl : x ≤ j
      · have ox := hq.cell (hO7.cell (k := x) hxl)
        have fo := hq.frozen (hO7.free x)
        have hxl' : (x : Int) < (j : Int) + 1 := by omega
        have hx1 : IntKind.i64.wrap ((x : Int) + 1) = (x : Int) + 1 := by simp [IntKind.wrap, IntKind.signed, IntKind.bits]; omega
        go_upto_region 6 with (fail)
        go_region
        all_goals
          go_wp2
          go_roundw
          case rel => exact ⟨x + 1, by omega, by go_num, hq.drew.same ox⟩
          case measure => simp [intOf]; omega
      · have hxe : ¬ ((x : Int) < (j : Int) + 1) := by omega
        have hFM : FM wr B rb sb scap ob ocap ocap (fun _ => .slice none 0 0) (fun _ => e0 n) 1 (fun _ => none) j := by
          refine ⟨hR7.keep (by rw [hq.heap]), hS7.keep (by rw [hq.heap]), hO7.keep (by rw [hq.heap]), fun x _ => World.ownsRow_nil _ _ _ _, fun x y _ _ _ b hb => by simp [Value.ownBlock] at hb, hnc, hcm, hoc, hB, hBg, hBo⟩
        have hbq : Below B w3 wr := hb7.trans (hq.below B)
        have hkq : K44 w3 wr := fun d cs hd => by rw [hq.heap]; exact hk7 d cs hd
        have h2j : 0 < 2 ^ j := Nat.pos_of_ne_zero (by simp)
        have rop := reopen_low 0 wr hj hFM (by omega) (show (e0 n).h < 2 ^ j from h2j) rfl (TabAt.below hT h0 hbq)
        clear hr hR7 hS7 hO7 hT
        go_wp2_with (go_at_call 14; refine rop.mono ?_; rintro en w8 ⟨rfl, ⟨R', hF8, _⟩, hb8, hfr8, _⟩; refine Hid.out ?_)
        refine Lib.hid ?_
        go_wp2
        first | go_end0 | refine bodyPost_ret (results_none rfl _ _ _) rfl ?_
        refine ⟨rfl, ⟨sb, scap, ob, ocap, ocap, R', _, _, hF8, ⟨⟨by simp, by simp, ?_⟩, ?_, ?_⟩, ?_⟩, hbq.trans hb8, fun d cs hd => ?_⟩
        · simp [LkTo, upd, e0, hdOr]
        · intro k hk
          simp at hk
          subst hk
          simp [SlotOk, upd, e0, h2j]
        · intro x' hx' i
          have hd0 : dep j (e0 n).h = 0 := by simp [dep, e0]
          rw [hd0]
          by_cases ex : x' = 0
          · subst ex
            rw [upd_self]
            refine ⟨fun e => ?_, fun ⟨h1, h2, h3⟩ => ?_⟩
            · obtain rfl : 0 = i := Option.some.inj e
              refine ⟨by simp, ?_, ?_⟩
              · rw [upd_self]; exact h2j
              · rw [upd_self]; exact hd0
            · simp at h1
              rw [h1]
          · rw [upd_ne _ _ ex]
            refine ⟨(fun e => by cases e), fun ⟨h1, h2, h3⟩ => ?_⟩
            simp at h1
            subst h1
            rw [upd_self] at h3
            exact absurd (h3.symm.trans hd0) ex
        · simp [sgs, upd, En.sg, e0, HTN.out]
        · have h1 := hkq d cs hd
          obtain ⟨_, m2, m3, m4⟩ := hFM.ne44 h1
          rw [hfr8 d (lt_heap h1) m2 m3 m4]
          exact h1

end Go.Proofs.YbulkafceFmt
