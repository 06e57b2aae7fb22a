/-
  LawS1547CAgrees, walked.
-/
import Derived.Test.YbulkafaaRest
import Derived.Deep.DeepCutAuto
import Derived.Deep.CutBlock
namespace Go.Proofs.Ybulkafaa
open Go.RowKit Go.Sort

theorem info44 : (Yba.prog.info? 44).map (fun i => (i.zero, i.size, i.bytes)) = some (some (.pointer none), 1, 8) := by kernel_rfl
theorem info3 : (Yba.prog.info? 3).map (fun i => (i.zero, i.size, i.bytes)) = some (some (.int .i64 0), 1, 8) := by kernel_rfl
theorem info4 : (Yba.prog.info? 4).map (fun i => (i.zero, i.size, i.bytes)) = some (some (.bool false), 1, 1) := by kernel_rfl

set_option maxHeartbeats 40000000 in
set_option maxRecDepth 100000 in
theorem walk_small (out0 st ln : Int) (rx : Bool) (p : Option Addr) (n0 c0 : Nat) (Av : Nat → Option Addr) (Ln Cp : Nat → Nat) (G D : Nat → Nat → Nat) (X : Nat → Nat → Bool) (w : World) (hn : n0 ≤ 1024) (o0 : 0 ≤ out0) (o1 : out0 ≤ 255) (s0 : 0 ≤ st) (s1 : st ≤ 65535) (l0 : 0 ≤ ln) (l1 : ln ≤ 255)
    (hI : In w p n0 Av Ln Cp G D X) :
    Calls Yba.prog 3 #[.int .u8 out0, .slice p n0 c0, .agg #[.int .u16 st, .int .u8 ln, .bool rx]] w fun e w' => e = .returned (.bool true) ∧ Below w.heap.size w w' := by
  have hn' : decide ((1024 : Int) < (n0 : Int)) = false := by simp; omega
  have HI : Hid (In w p n0 Av Ln Cp G D X) := hI
  clear hI
  go_enter Yba.func3, Yba.ntmps3
  go_upto_block 0 with (fail)
  go_cut [7] (fun _ wc => wc = w.alloc (.cells #[.int .u16 st, .int .u8 ln, .bool rx] 25) ∧ Hid (∀ j, j < min n0 7 → Ln j ≤ 1024))
  case first =>
    go_wp2
    go_loop [7] (fun i => ∃ k : Nat, k ≤ n0 ∧ k ≤ 7 ∧ i = .int .i64 k ∧ Hid (∀ j, j < k → Ln j ≤ 1024)) (fun i => n0 - (intOf i).toNat)
    case atStart => exact ⟨0, Nat.zero_le _, by omega, rfl, fun j hj => by omega⟩
    case round =>
      obtain ⟨k, hk1, hk2, rfl, hsm⟩ := hrel
      have hI := HI.out
      by_cases hlt : k < n0 ∧ k < 7
      · obtain ⟨h1, h2⟩ := hlt
        obtain ⟨b, o, rfl, hc⟩ := hI.row k h1
        have hb : Below w.heap.size w (w.alloc (.cells #[.int .u16 st, .int .u8 ln, .bool rx] 25)) := (Below.refl _ _).alloc (Nat.le_refl _) _
        have hc' := cell_on hb hc
        have hln := hI.len k h1
        unfold maxLen at hln
        by_cases hbig : Ln k ≤ 1024
        · have hbig' : ¬ (1024 : Int) < (Ln k : Int) := by omega
          go_wp2
          go_round
          case rel => exact ⟨k + 1, by omega, by omega, by go_num, fun j hj => by
            by_cases e : j = k
            · rw [e]; exact hbig
            · exact hsm.out j (by omega)⟩
          case measure => simp [intOf]; omega
        · have hbig' : (1024 : Int) < (Ln k : Int) := by omega
          go_wp2
          go_ret
          exact ⟨rfl, hb⟩
      · have hx : ¬ k < n0 ∨ (k < n0 ∧ ¬ k < 7) := by omega
        have hfin : Hid (∀ j, j < min n0 7 → Ln j ≤ 1024) := fun j hj => hsm.out j (by omega)
        clear hsm
        rcases hx with hx | ⟨hx1, hx2⟩
        · go_wp2_with fail
          go_meet
          exact ⟨rfl, hfin⟩
        · go_wp2_with fail
          go_meet
          exact ⟨rfl, hfin⟩
  case rest =>
    obtain ⟨rfl, hsm⟩ := hcut
    obtain ⟨k, HKM⟩ : ∃ k, Hid (k = min n0 7) := ⟨_, rfl⟩
    rw [← HKM.out] at hsm
    have hO := out_start w #[.int .u16 st, .int .u8 ln, .bool rx] (levelT n0 Ln G D X)
    unfold five z37 z7 at hO
    go_upto_block 2 with (fail)
    go_cut [12] (fun _ wc => ∃ A, OUT w wc k A (levelT n0 Ln G D X) #[.int .u16 st, .int .u8 ln, .bool rx])
    case first =>
        go_wp2
        go_loopw [12] (fun i wr => ∃ (l : Nat) (A : Nat → Nat → Value), l ≤ k ∧ i = .int .i64 l ∧ OUT w wr l A (levelT n0 Ln G D X) #[.int .u16 st, .int .u8 ln, .bool rx]) (fun i _ => k - (intOf i).toNat)
        case atStart => exact ⟨0, _, Nat.zero_le _, rfl, hO⟩
        case round =>
          clear hO
          obtain ⟨wl, rfl⟩ : ∃ wl : World, wl = wr := ⟨_, rfl⟩
          obtain ⟨l, A, hlk, rfl, hO⟩ := hrel
          have hkm := HKM.out
          by_cases hl : l < n0 ∧ l < 7
          · obtain ⟨hl1, hl2⟩ := hl
            have hI := HI.out
            obtain ⟨b, o, rfl, hc⟩ := hI.row l hl1
            have hc' := cell_on hO.bel hc
            have hln : Ln l ≤ 1024 := hsm.out l (by omega)
            have HINJ0 : INJ w wl wl l A (G l) (D l) (X l) #[.int .u16 st, .int .u8 ln, .bool rx] 0 := inj_start hO hl2
            have hlk2 : l < k := by omega
            clear hkm
            go_wp2
            go_loopw [13, 65] (fun c i wr => ∃ j : Nat, j ≤ Ln l ∧ i = .int .i64 j ∧ c = .int .i64 (curAt (G l) (D l) (X l) j : Nat) ∧ INJ w wl wr l A (G l) (D l) (X l) #[.int .u16 st, .int .u8 ln, .bool rx] j) (fun _ i _ => Ln l - (intOf i).toNat)
            case atStart => exact ⟨0, Nat.zero_le _, rfl, rfl, HINJ0⟩
            case round =>
              clear HINJ0
              obtain ⟨j, hj, rfl, rfl, hIN⟩ := hrel
              by_cases hjl : j < Ln l
              · obtain ⟨bs, oo, hav, cg, cd, cx, hg, hd⟩ := hI.step l hl1 j hjl
                have hbel : Below w.heap.size w wr := by obtain ⟨_, _, h, _⟩ := hIN; exact h.bel
                have cg' := cell_on hbel cg
                have cd' := cell_on hbel cd
                have cx' := cell_on hbel cx
                have hcl := cur_le (G l) (D l) (X l) j
                have hel := end_le (G l) (D l) (X l) j
                rw [hav]
                clear hc hc' cg cd cx hav hI hsm
                obtain ⟨c, HC⟩ : ∃ c, Hid (c = curAt (G l) (D l) (X l) j) := ⟨_, rfl⟩
                obtain ⟨gj, HG⟩ : ∃ c, Hid (c = G l j) := ⟨_, rfl⟩
                obtain ⟨dj, HD⟩ : ∃ c, Hid (c = D l j) := ⟨_, rfl⟩
                obtain ⟨xj, HX⟩ : ∃ c, Hid (c = X l j) := ⟨_, rfl⟩
                rw [← HG.out] at cg' hg
                rw [← HD.out] at cd' hd
                rw [← HX.out] at cx'
                rw [← HC.out] at hcl ⊢
                obtain ⟨sN, hS⟩ : ∃ sN : Nat, (c : Int) + (gj : Int) % 4 = (sN : Int) := ⟨c + gj % 4, by omega⟩
                have hsb : sN ≤ 8000 := by omega
                have hwr : wl.heap.size ≤ wr.heap.size := by obtain ⟨_, _, h, _⟩ := hIN; exact h.sz
                have hzl : w.heap.size + 5 ≤ wl.heap.size := by obtain ⟨_, _, h, _⟩ := hIN; exact h.zl
                have hm1 : j + 1 ≤ maxLen := by unfold maxLen; omega
                have hm2 : (j + 1) * 8 ≤ 140737488355328 := by omega
                have hm4 : (j + 1) * 1 ≤ 140737488355328 := by omega
                obtain ⟨i44, hi44, hz44, hs44, hb44⟩ := info_parts info44
                obtain ⟨i3, hi3, hz3, hs3, hb3⟩ := info_parts info3
                obtain ⟨i4, hi4, hz4, hs4, hb4⟩ := info_parts info4
                obtain ⟨eN, HEN⟩ : ∃ eN : Nat, Hid (eN = sN + dj % 4 + (if xj = true then 1 else 0)) := ⟨_, rfl⟩
                have heb : eN ≤ 8000 := by have := HEN.out; split at this <;> omega
                have kS := fun W => key_any sN (by omega) W
                have kE := fun W => key_any eN (by omega) W
                have ht : triAt (G l) (D l) (X l) j = ⟨sN, eN, xj⟩ := by
                  have h1 : c + gj % 4 = sN := by omega
                  have h2 := HEN.out
                  unfold triAt endAt
                  rw [← HX.out, ← HG.out, ← HD.out, ← HC.out, h1]
                  cases xj <;> simp at h2 ⊢ <;> omega
                have hcn : curAt (G l) (D l) (X l) (j + 1) = (if xj = true then eN else eN + 1) := by
                  have h2 : (triAt (G l) (D l) (X l) j).e = eN := by rw [ht]
                  rw [cur_next, ← HX.out]
                  cases xj
                  · exact congrArg (· + 1) h2
                  · exact h2
                have HTRI : Hid (triAt (G l) (D l) (X l) j = ⟨sN, eN, xj⟩) := ht
                have HCN : Hid (curAt (G l) (D l) (X l) (j + 1) = (if xj = true then eN else eN + 1)) := hcn
                clear ht hcn
                go_upto_if 82 with (fail)
                go_cut [17] (fun v wd => v = .int .i64 eN ∧ wd = wr.alloc (.cells #[.int .u8 gj, .int .u8 dj, .bool xj] 43))
                case first =>
                  cases xj with
                  | false =>
                    have h2 : (eN : Int) = (sN : Int) + (dj : Int) % 4 := by have := HEN.out; simp at this; omega
                    have H2 : Hid ((eN : Int) = (sN : Int) + (dj : Int) % 4) := h2
                    clear h2
                    go_wp2_with fail
                    go_meet
                    exact ⟨by rw [H2.out], rfl⟩
                  | true =>
                    have h2 : (eN : Int) = (sN : Int) + (dj : Int) % 4 + 1 := by have := HEN.out; simp at this; omega
                    have H2 : Hid ((eN : Int) = (sN : Int) + (dj : Int) % 4 + 1) := h2
                    clear h2
                    go_wp2_with fail
                    go_meet
                    exact ⟨by rw [H2.out], rfl⟩
                case rest =>
                  obtain ⟨rfl, rfl⟩ := hcut
                  go_upto_region 22 with (fail)
                  go_cut [18] (fun v wc => ∃ pb, v = .pointer (some ⟨pb, 0, none⟩) ∧ Mid22 w wl wc l A (G l) (D l) (X l) #[.int .u16 st, .int .u8 ln, .bool rx] j v wr.heap.size #[.int .u8 gj, .int .u8 dj, .bool xj])
                  case first =>
                    go_region_with (first | (go_at_call_of 4 sN; refine (kS _).mono ?_; rintro e w' ⟨rfl, rfl⟩) | (go_at_call_of 4 eN; refine (kE _).mono ?_; rintro e w' ⟨rfl, rfl⟩))
                    all_goals (go_wp2_with fail; go_meet)
                    all_goals exact ⟨_, rfl, mid22_new hIN HTRI.out (by omega) (by omega) rfl rfl rfl rfl⟩
                  case rest =>
                    clear hIN
                    obtain ⟨pb, hpb, hM⟩ := hcut
                    subst hpb
                    obtain ⟨v0, v1, v2, v3, ps, c0', f0', _, _, _, _, _, _, r0, _, _, _, st0, _⟩ := INS.view hM.inj hl2
                    have hwl : wl.heap.size ≤ wc.heap.size := by obtain ⟨_, _, h, _⟩ := hM.inj; exact h.sz
                    have hb1 : ∀ o1, Below wc.heap.size wc (wc.alloc o1).drew := fun o1 => ((Below.refl _ _).alloc (Nat.le_refl _) o1).drew
                    have c0a : ∀ o1, (wc.alloc o1).cell? ⟨w.heap.size + 1, 1 + l, none⟩ = some v0 := fun o1 => by rw [World.cell?_alloc_past _ _ _ (by omega)]; exact c0'
                    have hown1 := ((r0.alloc (.cells #[.pointer (some ⟨pb, 0, none⟩)] 44)).drew)
                    have hcP : ((wc.alloc (.cells #[.pointer (some ⟨pb, 0, none⟩)] 44)).drew).cell? ⟨wc.heap.size, 0, none⟩ = some (.pointer (some ⟨pb, 0, none⟩)) := by simp
                    have hm3 : wl.heap.size ≤ ((wc.alloc (.cells #[.pointer (some ⟨pb, 0, none⟩)] 44)).drew).heap.size := by simp; omega
                    have htab := hM.tab.ext (Ext.of_all (ext_alloc _ _ (.cells #[.pointer (some ⟨pb, 0, none⟩)] 44)))
                    have hsv := hM.sv
                    clear hM
                    go_upto_region 23 with (fail)
                    go_cut [] (fun wd => Stg w wl wd l A (G l) (D l) (X l) #[.int .u16 st, .int .u8 ln, .bool rx] (j + 1) j j j wr.heap.size #[.int .u8 gj, .int .u8 dj, .bool xj])
                    case first =>
                      go_region_law (refine step_app1 _ rfl (.tmp 101) (.tmp 103) 29 rfl wl.heap.size 44 i44 (.pointer none) 8 Yba.underlying29 hi44 hz44 hs44 hb44 rfl v0 j ps (by simp [Act.eval]) hown1 ⟨wc.heap.size, 0, none⟩ 1 (.pointer (some ⟨pb, 0, none⟩)) (by simp [Act.eval]) hcP rfl hm1 hm2 hm3 ?_; intro v' w1 hown2 hg2 hf2; obtain ⟨gc, gf⟩ := grown_cell (b := w.heap.size + 1) (o := 1 + l) hown1 hg2 (by omega) (by simp; omega); have gc' := gc.trans (c0a _); have gf' := gf.trans (show (wc.alloc _).frozen? _ = false by rw [World.frozen?_alloc_past _ _ _ (by omega)]; exact f0'); clear gc gf; obtain ⟨gv, cv, hv⟩ := own_slice hown2; rw [hv] at hown2 hf2 ⊢)
                      all_goals
                        go_wp2_with fail
                        go_meet
                        exact ⟨st0 _ _ _ _ (hb1 _) hown2 hg2 hf2 htab, kept_other hown1 hg2 (alloc_heap hsv) (by decide) (by omega)⟩
                    case rest =>
                      clear c0' f0' r0 st0 c0a hown1 hcP hm3 htab hsv hb1 hwl
                      obtain ⟨hins, hsv⟩ := hcut
                      obtain ⟨v0, v1, v2, v3, ps, _, _, c1', f1', _, _, _, _, _, r1, _, _, _, st1, _⟩ := INS.view hins hl2
                      have hwl : wl.heap.size ≤ wc.heap.size := by obtain ⟨_, _, h, _⟩ := hins; exact h.sz
                      have hb1 : ∀ o1, Below wc.heap.size wc (wc.alloc o1) := fun o1 => (Below.refl _ _).alloc (Nat.le_refl _) o1
                      have hown1 := r1.alloc (.cells #[.int .i64 sN] 3)
                      have hcP : (wc.alloc (.cells #[.int .i64 sN] 3)).cell? ⟨wc.heap.size, 0, none⟩ = some (.int .i64 sN) := by simp
                      have hm3 : wl.heap.size ≤ (wc.alloc (.cells #[.int .i64 sN] 3)).heap.size := by simp; omega
                      clear hins
                      go_upto_region 24 with (fail)
                      go_cut [] (fun wd => Stg w wl wd l A (G l) (D l) (X l) #[.int .u16 st, .int .u8 ln, .bool rx] (j + 1) (j + 1) j j wr.heap.size #[.int .u8 gj, .int .u8 dj, .bool xj])
                      case first =>
                        go_wp2_with (at_builtin; refine wpList_app1 _ rfl (.tmp 111) (.tmp 113) 38 rfl wl.heap.size 3 i3 (.int .i64 0) 8 Yba.underlying38 hi3 hz3 hs3 hb3 rfl v1 j _ rfl hown1 ⟨wc.heap.size, 0, none⟩ 1 (.int .i64 sN) rfl hcP rfl hm1 hm2 hm3 ?_)
                        intro v' w1 hown2 hg2 hf2
                        obtain ⟨gc, gf⟩ := grown_cell (b := w.heap.size + 1 + 1) (o := l) hown1 hg2 (by omega) (by simp; omega)
                        have gc' := gc.trans (show (wc.alloc _).cell? _ = some v1 by rw [World.cell?_alloc_past _ _ _ (by omega)]; exact c1')
                        have gf' := gf.trans (show (wc.alloc _).frozen? _ = false by rw [World.frozen?_alloc_past _ _ _ (by omega)]; exact f1')
                        clear gc gf
                        obtain ⟨gv, cv, hv⟩ := own_slice hown2
                        rw [hv] at hown2 hf2 ⊢
                        go_wp2_with fail
                        go_meet
                        exact ⟨st1 _ _ _ _ (hb1 _) hown2 hg2 hf2 (by rw [HTRI.out]), kept_other hown1 hg2 (alloc_heap hsv) (by decide) (by omega)⟩
                      case rest =>
                        clear c1' f1' r1 st1 hown1 hcP hm3 hsv hb1 hwl
                        obtain ⟨hins, hsv⟩ := hcut
                        obtain ⟨v0, v1, v2, v3, ps, _, _, _, _, c2', f2', _, _, _, _, r2, _, _, _, st2, _⟩ := INS.view hins hl2
                        have hwl : wl.heap.size ≤ wc.heap.size := by obtain ⟨_, _, h, _⟩ := hins; exact h.sz
                        have hb1 : ∀ o1, Below wc.heap.size wc (wc.alloc o1) := fun o1 => (Below.refl _ _).alloc (Nat.le_refl _) o1
                        have hown1 := r2.alloc (.cells #[.int .i64 eN] 3)
                        have hcP : (wc.alloc (.cells #[.int .i64 eN] 3)).cell? ⟨wc.heap.size, 0, none⟩ = some (.int .i64 eN) := by simp
                        have hm3 : wl.heap.size ≤ (wc.alloc (.cells #[.int .i64 eN] 3)).heap.size := by simp; omega
                        clear hins
                        go_upto_region 25 with (fail)
                        go_cut [] (fun wd => Stg w wl wd l A (G l) (D l) (X l) #[.int .u16 st, .int .u8 ln, .bool rx] (j + 1) (j + 1) (j + 1) j wr.heap.size #[.int .u8 gj, .int .u8 dj, .bool xj])
                        case first =>
                          go_wp2_with (at_builtin; refine wpList_app1 _ rfl (.tmp 119) (.tmp 121) 38 rfl wl.heap.size 3 i3 (.int .i64 0) 8 Yba.underlying38 hi3 hz3 hs3 hb3 rfl v2 j _ rfl hown1 ⟨wc.heap.size, 0, none⟩ 1 (.int .i64 eN) rfl hcP rfl hm1 hm2 hm3 ?_)
                          intro v' w1 hown2 hg2 hf2
                          obtain ⟨gc, gf⟩ := grown_cell (b := w.heap.size + 1 + 1 + 1) (o := l) hown1 hg2 (by omega) (by simp; omega)
                          have gc' := gc.trans (show (wc.alloc _).cell? _ = some v2 by rw [World.cell?_alloc_past _ _ _ (by omega)]; exact c2')
                          have gf' := gf.trans (show (wc.alloc _).frozen? _ = false by rw [World.frozen?_alloc_past _ _ _ (by omega)]; exact f2')
                          clear gc gf
                          obtain ⟨gv, cv, hv⟩ := own_slice hown2
                          rw [hv] at hown2 hf2 ⊢
                          go_wp2_with fail
                          go_meet
                          exact ⟨st2 _ _ _ _ (hb1 _) hown2 hg2 hf2 (by rw [HTRI.out]), kept_other hown1 hg2 (alloc_heap hsv) (by decide) (by omega)⟩
                        case rest =>
                          clear c2' f2' r2 st2 hown1 hcP hm3 hsv hb1 hwl
                          obtain ⟨hins, hsv⟩ := hcut
                          obtain ⟨v0, v1, v2, v3, ps, _, _, _, _, _, _, c3', f3', _, _, _, r3, _, _, _, st3⟩ := INS.view hins hl2
                          have hwl : wl.heap.size ≤ wc.heap.size := by obtain ⟨_, _, h, _⟩ := hins; exact h.sz
                          have hb1 : ∀ o1, Below wc.heap.size wc (wc.alloc o1).drew := fun o1 => ((Below.refl _ _).alloc (Nat.le_refl _) o1).drew
                          have hown1 := (r3.alloc (.cells #[.bool xj] 4)).drew
                          have hcP : ((wc.alloc (.cells #[.bool xj] 4)).drew).cell? ⟨wc.heap.size, 0, none⟩ = some (.bool xj) := by simp
                          have hm3 : wl.heap.size ≤ ((wc.alloc (.cells #[.bool xj] 4)).drew).heap.size := by simp; omega
                          have cs2 : wc.cell? ⟨wr.heap.size, 2, none⟩ = some (.bool xj) := by rw [cell_of_row _ _ 2 _ _ _ hsv]; rfl
                          have c3a : ∀ o1, (wc.alloc o1).cell? ⟨w.heap.size + 1 + 1 + 1 + 1, l, none⟩ = some v3 := fun o1 => by rw [World.cell?_alloc_past _ _ _ (by omega)]; exact c3'
                          clear hins
                          go_upto_region 26 with (fail)
                          go_cut [] (fun wd => Stg w wl wd l A (G l) (D l) (X l) #[.int .u16 st, .int .u8 ln, .bool rx] (j + 1) (j + 1) (j + 1) (j + 1) wr.heap.size #[.int .u8 gj, .int .u8 dj, .bool xj])
                          case first =>
                            go_region_law (refine step_app1 _ rfl (.tmp 127) (.tmp 130) 40 rfl wl.heap.size 4 i4 (.bool false) 1 Yba.underlying40 hi4 hz4 hs4 hb4 rfl v3 j _ (by simp [Act.eval]) hown1 ⟨wc.heap.size, 0, none⟩ 1 (.bool xj) (by simp [Act.eval]) hcP rfl hm1 hm4 hm3 ?_; intro v' w1 hown2 hg2 hf2; obtain ⟨gc, gf⟩ := grown_cell (b := w.heap.size + 1 + 1 + 1 + 1) (o := l) hown1 hg2 (by omega) (by simp; omega); have gc' := gc.trans (c3a _); have gf' := gf.trans (show (wc.alloc _).frozen? _ = false by rw [World.frozen?_alloc_past _ _ _ (by omega)]; exact f3'); clear gc gf; obtain ⟨gv, cv, hv⟩ := own_slice hown2; rw [hv] at hown2 hf2 ⊢)
                            all_goals
                              go_wp2_with fail
                              go_meet
                              exact ⟨st3 _ _ _ _ (hb1 _) hown2 hg2 hf2 (by rw [HTRI.out]), kept_other hown1 hg2 (alloc_heap hsv) (by decide) (by omega)⟩
                          case rest =>
                            clear c3' f3' r3 st3 hown1 hcP hm3 hsv hb1 hwl cs2 c3a
                            obtain ⟨hins, hsv⟩ := hcut
                            have cs2 : wc.cell? ⟨wr.heap.size, 2, none⟩ = some (.bool xj) := by rw [cell_of_row _ _ 2 _ _ _ hsv]; rfl
                            cases xj with
                            | false =>
                              go_wp2
                              go_roundw
                              case rel => exact ⟨j + 1, by omega, by go_num, by rw [HCN.out]; simp, hins⟩
                              case measure => simp [intOf]; omega
                            | true =>
                              go_wp2
                              go_roundw
                              case rel => exact ⟨j + 1, by omega, by go_num, by rw [HCN.out]; simp, hins⟩
                              case measure => simp [intOf]; omega
              · have hO' : ∃ B, OUT w wr (l + 1) B (levelT n0 Ln G D X) #[.int .u16 st, .int .u8 ln, .bool rx] := inj_end (n := Ln l) hO hl2 ((show j = Ln l by omega) ▸ hIN) (by simp [levelT, hl1])
                obtain ⟨B, hO'⟩ := hO'
                clear hIN hO
                go_wp2
                go_roundw
                case rel => exact ⟨l + 1, B, by omega, by go_num, hO'⟩
                case measure => simp [intOf]; omega
          · have hlk3 : l = k := by omega
            have hx : ¬ l < 7 ∨ (l < 7 ∧ ¬ l < n0) := by omega
            have hOk : ∃ A, OUT w wl k A (levelT n0 Ln G D X) #[.int .u16 st, .int .u8 ln, .bool rx] := ⟨A, hlk3 ▸ hO⟩
            clear hlk3 hkm hO
            rcases hx with hx | ⟨hx1, hx2⟩
            · go_wp2_with fail
              go_meet
              exact hOk
            · go_wp2_with fail
              go_meet
              exact hOk
    case rest =>
      obtain ⟨A, hO⟩ := hcut
      rename_i hK
      refine hK _ _ ?_
      exact rest_part out0 st ln rx p n0 c0 Ln G D X w wc k A o0 o1 s0 s1 l0 l1 hsm HKM hO _ _ _ _ _ _ _ _ _ _ _ _ _ _ _ _ _ _ _ _ _ _ _ _ _ _ _ _ _ _ _ _ _ _ _ _ _ _ _ _ _ _ _ _ _ _ _ _ _ _ _ _ _ _ _ _ _ _ _ _ _ _ _ _ _ _ _ _ _ _ _ _ _ _ _ _ _ _ _ _ _ _ _ _ _ _ _ _ _ _ _ _ _ _ _ _ _ _ _ _ _ _ _ _ _ _ _ _ _ _ _ _ _

end Go.Proofs.Ybulkafaa
