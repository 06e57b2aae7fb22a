/-
  reopen, walked.
-/
import Derived.Test.YbulkafceFmtClose
import Derived.Test.YbulkafceFmtApp
namespace Go.Proofs.YbulkafceFmt
open Go.RowKit

theorem info3 : (Ybaf.prog.info? 3).map (fun i => (i.zero, i.size, i.bytes)) = some (some (.int .i64 0), 1, 8) := by kernel_rfl

section
variable {B rb sb scap ob ocap oN : Nat} {R : Nat → Value} {S : Nat → En} {sz : Nat} {O : Nat → Option Nat} {j : Nat}

theorem FM.setNodes {w : World} (h : FM w B rb sb scap ob ocap oN R S sz O j) {i : Nat} (hi : i < sz) (z : Nat) : FM (w.setCell ⟨sb, i * 6 + 1, none⟩ (.int .i64 (z : Int))) B rb sb scap ob ocap oN R (upd S i { S i with n := z }) sz O j :=
  h.setSeg hi (k := 1) (by omega) { S i with n := z } _ rfl (fun k' hk hne => by
    match k', hk, hne with
    | 0, _, _ => rfl
    | 1, _, h => exact absurd rfl h
    | 2, _, _ => rfl
    | 3, _, _ => rfl
    | 4, _, _ => rfl
    | 5, _, _ => rfl
    | n + 6, h, _ => omega)

theorem FM.setHeight {w : World} (h : FM w B rb sb scap ob ocap oN R S sz O j) {i : Nat} (hi : i < sz) (z : Nat) : FM (w.setCell ⟨sb, i * 6 + 2, none⟩ (.int .i64 (z : Int))) B rb sb scap ob ocap oN R (upd S i { S i with h := z }) sz O j :=
  h.setSeg hi (k := 2) (by omega) { S i with h := z } _ rfl (fun k' hk hne => by
    match k', hk, hne with
    | 0, _, _ => rfl
    | 1, _, _ => rfl
    | 2, _, h => exact absurd rfl h
    | 3, _, _ => rfl
    | 4, _, _ => rfl
    | 5, _, _ => rfl
    | n + 6, h, _ => omega)

theorem FM.setPrev {w : World} (h : FM w B rb sb scap ob ocap oN R S sz O j) {i : Nat} (hi : i < sz) (z : Int) : FM (w.setCell ⟨sb, i * 6 + 3, none⟩ (.int .i64 (z : Int))) B rb sb scap ob ocap oN R (upd S i { S i with p := z }) sz O j :=
  h.setSeg hi (k := 3) (by omega) { S i with p := z } _ rfl (fun k' hk hne => by
    match k', hk, hne with
    | 0, _, _ => rfl
    | 1, _, _ => rfl
    | 2, _, _ => rfl
    | 3, _, h => exact absurd rfl h
    | 4, _, _ => rfl
    | 5, _, _ => rfl
    | n + 6, h, _ => omega)

theorem FM.setNext {w : World} (h : FM w B rb sb scap ob ocap oN R S sz O j) {i : Nat} (hi : i < sz) (z : Int) : FM (w.setCell ⟨sb, i * 6 + 4, none⟩ (.int .i64 (z : Int))) B rb sb scap ob ocap oN R (upd S i { S i with x := z }) sz O j :=
  h.setSeg hi (k := 4) (by omega) { S i with x := z } _ rfl (fun k' hk hne => by
    match k', hk, hne with
    | 0, _, _ => rfl
    | 1, _, _ => rfl
    | 2, _, _ => rfl
    | 3, _, _ => rfl
    | 4, _, h => exact absurd rfl h
    | 5, _, _ => rfl
    | n + 6, h, _ => omega)

theorem FM.setSlot {w : World} (h : FM w B rb sb scap ob ocap oN R S sz O j) {i : Nat} (hi : i < sz) (z : Int) : FM (w.setCell ⟨sb, i * 6 + 5, none⟩ (.int .i64 (z : Int))) B rb sb scap ob ocap oN R (upd S i { S i with sl := z }) sz O j :=
  h.setSeg hi (k := 5) (by omega) { S i with sl := z } _ rfl (fun k' hk hne => by
    match k', hk, hne with
    | 0, _, _ => rfl
    | 1, _, _ => rfl
    | 2, _, _ => rfl
    | 3, _, _ => rfl
    | 4, _, _ => rfl
    | 5, _, h => exact absurd rfl h
    | n + 6, h, _ => omega)

theorem own_slice {w : World} {B e n : Nat} {v : Value} {xs : List Value} (h : w.ownsRow B e 1 v (n + 1) xs) : ∃ g c, v = .slice (some ⟨g, 0, none⟩) (n + 1) c := by
  rcases h.2 with ⟨_, h0⟩ | ⟨g, cap, cur, hv, _⟩
  · omega
  · exact ⟨g, cap, hv⟩

/-- An entry appended to the open row of a depth, the row stored. -/
theorem FM.app {W w1 : World} {x i : Nat} {v' : Value} (h : FM W B rb sb scap ob ocap oN R S sz O j) (hx : x ≤ j) (hown : w1.ownsRow B 3 1 v' 1 [.int .i64 (i : Int)]) (hg : W.grownBy w1 (R x).ownBlock) (hf : Fresh W (R x) v') :
    FM (w1.setCell ⟨ob, x, none⟩ v') B rb sb scap ob ocap oN (upd R x v') S sz (upd O x (some i)) j ∧ Below B W (w1.setCell ⟨ob, x, none⟩ v') := by
  obtain ⟨n1, n2, n3⟩ := h.ne
  have hkeep : ∀ b, b < W.heap.size → (R x).ownBlock ≠ some b → w1.heap[b]? = W.heap[b]? := fun b hb hne => hg.block b hb (fun e => hne e.symm)
  have hrx : ∀ b, (R x).ownBlock = some b → b ≠ rb ∧ b ≠ sb ∧ b ≠ ob := fun b hb => h.neInner hx hb
  have kr := hkeep rb h.room.lt (fun e => (hrx rb e).1 rfl)
  have ks := hkeep sb h.seg.lt (fun e => (hrx sb e).2.1 rfl)
  have ko := hkeep ob h.opn.lt (fun e => (hrx ob e).2.2 rfl)
  have hopn1 := h.opn.keep ko
  have hvne : ∀ b, v'.ownBlock = some b → b ≠ ob := fun b hb e => by
    obtain ⟨cur, hc⟩ := own_row hown hb
    obtain ⟨c3, h3, _⟩ := hopn1
    subst e
    rw [hc] at h3
    simp at h3
  have hfy : ∀ y, y ≤ j → y ≠ x → ∀ b, v'.ownBlock = some b → (R y).ownBlock ≠ some b := by
    intro y hy hne b hb hyb
    rcases hf with e | ⟨k, hk, hge⟩
    · rw [e] at hb
      exact h.apart x y hx hy (fun e => hne e.symm) b hb hyb
    · rw [hk] at hb
      cases hb
      obtain ⟨cur, hc⟩ := own_row (h.inner y hy) hyb
      have := lt_heap hc
      omega
  refine ⟨⟨(h.room.keep kr).setOther n2 _, (h.seg.keep ks).setOther n3 _, hopn1.set hx _, fun y hy => ?_, fun y z hy hz hne b hb => ?_, h.szc, h.scm, h.joc, h.Bb⟩, ?_⟩
  · by_cases e : y = x
    · subst e
      rw [upd_self, upd_self]
      exact own_keep hown fun b hb => Below.heap_setCell _ _ _ _ (hvne b hb)
    · rw [upd_ne _ _ e, upd_ne _ _ e]
      refine own_keep (h.inner y hy) fun b hb => ?_
      rw [Below.heap_setCell _ _ _ _ (h.neInner hy hb).2.2]
      obtain ⟨cur, hc⟩ := own_row (h.inner y hy) hb
      exact hkeep b (lt_heap hc) (fun e' => h.apart x y hx hy (fun q => e q.symm) b e' hb)
  · by_cases ey : y = x
    · subst ey
      rw [upd_self] at hb
      rw [upd_ne _ _ (fun e => hne e.symm)]
      exact hfy z hz (fun e => hne e.symm) b hb
    · rw [upd_ne _ _ ey] at hb
      by_cases ez : z = x
      · subst ez
        rw [upd_self]
        exact fun h2 => hfy y hy ey b h2 hb
      · rw [upd_ne _ _ ez]
        exact h.apart y z hy hz hne b hb
  · have hBW : B ≤ W.heap.size := by have := h.Bb.1; have := h.room.lt; omega
    exact ((Below.refl B W).grown hg hBW (fun k hk => ((h.inner x hx).lt k hk).1)).setCell h.Bb.2.2 _

set_option maxRecDepth 100000 in
theorem reopen_top (i : Nat) (w : World) (hF : FM w B rb sb scap ob ocap oN R S sz O j) (hi : i < sz) (hh : (S i).h = 2 ^ j) :
    Calls Ybaf.prog 14 #[.pointer (some ⟨rb, 17, none⟩), .int .i64 (i : Int)] w fun e w' => e = .returned (.tuple #[]) ∧ FM w' B rb sb scap ob ocap oN R (upd S i { S i with sl := -1 }) sz O j ∧ Below B w w' ∧ Frz sb ob w w' := by
  have mixed := mixed
  have HF : Hid (FM w B rb sb scap ob ocap oN R S sz O j) := hF
  obtain ⟨r17, _, r19, _⟩ := hF.roomCell
  have s2 := hF.segCell hi (k := 2) (by omega)
  have s5 := hF.segCell hi (k := 5) (by omega)
  have f5 := hF.seg.free (i * 6 + 5)
  simp only [fld, hh] at s2 s5
  have hil : (i : Int) < (sz : Int) := by omega
  obtain ⟨T, HT⟩ : ∃ T, Hid (T = ((2 ^ j : Nat) : Int)) := ⟨_, rfl⟩
  rw [← HT.out] at r19 s2
  clear hF hh
  go_enter Ybaf.func14, Ybaf.ntmps14
  go_upto_region 1 with (fail)
  go_quiet (fail)
  go_wp2
  first | go_end0 | refine bodyPost_ret (results_none rfl _ _ _) rfl ?_
  exact ⟨rfl, (HF.out.drewN _).setSlot hi (-1), (((Quiet.refl w).drewN _).below B).setCell HF.out.Bb.2.1 _, (((Quiet.refl w).drewN _).frz).setCell (.inl rfl) _⟩

set_option maxHeartbeats 2000000 in
set_option maxRecDepth 100000 in
theorem reopen_low (i : Nat) (w : World) (hj : j < 7) (hF : FM w B rb sb scap ob ocap oN R S sz O j) (hi : i < sz) (hh : (S i).h < 2 ^ j) (hO : O (dep j (S i).h) = none) (hT : TabAt 0 Lib.deBruijn64tab w) :
    Calls Ybaf.prog 14 #[.pointer (some ⟨rb, 17, none⟩), .int .i64 (i : Int)] w fun e w' => e = .returned (.tuple #[]) ∧ (∃ R', FM w' B rb sb scap ob ocap oN R' (upd S i { S i with sl := 0 }) sz (upd O (dep j (S i).h) (some i)) j ∧ ∀ y, (R' y).ownBlock = (R y).ownBlock ∨ ∃ k, (R' y).ownBlock = some k ∧ w.heap.size ≤ k) ∧ Below B w w' ∧ (∀ d, d < w.heap.size → d ≠ sb → d ≠ ob → (∀ y, y ≤ j → (R y).ownBlock ≠ some d) → w'.heap[d]? = w.heap[d]?) ∧ w.heap.size ≤ w'.heap.size := by
  have mixed := mixed
  have HF : Hid (FM w B rb sb scap ob ocap oN R S sz O j) := hF
  obtain ⟨i3, hi3, hz3, hs3, hb3⟩ := info_parts info3
  obtain ⟨r17, r18, r19, r20⟩ := hF.roomCell
  have hx := dep_le_j (j := j) (h := (S i).h)
  have s2 := hF.segCell hi (k := 2) (by omega)
  have s5 := hF.segCell hi (k := 5) (by omega)
  have f5 := hF.seg.free (i * 6 + 5)
  simp only [fld] at s2 s5
  have ox := hF.opnCell hx
  obtain ⟨a, c, hR⟩ := hF.zero hx hO
  rw [hR] at ox
  have hdp := fun W (hq : Quiet w W) => depth_any rb j (S i).h W hj (Nat.le_of_lt hh) (hq.cell r20) (fun k hk => hq.cell (hT k hk))
  obtain ⟨x, HX⟩ : ∃ x, Hid (x = dep j (S i).h) := ⟨_, rfl⟩
  rw [← HX.out] at hdp ox hx hR hO ⊢
  obtain ⟨h, HH⟩ : ∃ h, Hid (h = (S i).h) := ⟨_, rfl⟩
  rw [← HH.out] at hdp s2 hh
  have hne : ((h : Int) == ((2 ^ j : Nat) : Int)) = false := beq_eq_false_iff_ne.2 (fun e => by have := Int.ofNat_inj.1 e; omega)
  obtain ⟨T, HTp⟩ : ∃ T, Hid (T = ((2 ^ j : Nat) : Int)) := ⟨_, rfl⟩
  rw [← HTp.out] at r19 hne
  have hil : (i : Int) < (sz : Int) := by omega
  have hxl : (x : Int) < (j : Int) + 1 := by omega
  clear hF hh hT
  go_enter Ybaf.func14, Ybaf.ntmps14
  go_upto_region 1 with (fail)
  go_quiet (fail)
  go_wp2_with (go_at_call 18; refine (hdp _ ((Quiet.refl w).drewN _)).mono ?_; rintro e w1 ⟨rfl, hq1⟩; refine Hid.out ?_)
  refine Lib.hid ?_
  have hq1' : Quiet w w1 := ((Quiet.refl w).drewN _).trans hq1
  clear hq1 hdp
  have c18 := hq1'.cell r18
  have cox := hq1'.cell ox
  have cs5 := hq1'.cell s5
  have g5 := hq1'.frozen f5
  have hF2 := (HF.out.quiet hq1').setSlot hi 0
  have hz2 : Frz sb ob w (w1.setCell ⟨sb, i * 6 + 5, none⟩ (.int .i64 ((0 : Int)))) := hq1'.frz.setCell (.inl rfl) _
  have hb2 : Below B w (w1.setCell ⟨sb, i * 6 + 5, none⟩ (.int .i64 ((0 : Int)))) := (hq1'.below B).setCell HF.out.Bb.2.1 _
  go_upto_region 5 with (fail)
  obtain ⟨wd, HW⟩ : ∃ wd, Hid (wd = w1.setCell ⟨sb, i * 6 + 5, none⟩ (.int .i64 ((0 : Int)))) := ⟨_, rfl⟩
  rw [← HW.out] at hF2 hb2 hz2 ⊢
  have HZ2 : Hid (Frz sb ob w wd) := hz2
  clear hz2
  clear HW c18 cox cs5 g5 hq1' r17 r18 r19 r20 s2 s5 f5 ox
  have d18 := hF2.roomCell.2.1
  have dox := hF2.opnCell hx
  rw [hR] at dox
  have d18a : ∀ o, (wd.alloc o).cell? ⟨rb, 18, none⟩ = some (.slice (some ⟨ob, 0, none⟩) (j + 1) ocap) := fun o => (hF2.alloc o).roomCell.2.1
  have doxa : ∀ o, (wd.alloc o).cell? ⟨ob, x, none⟩ = some (.slice a 0 c) := fun o => by rw [(hF2.alloc o).opnCell hx, hR]
  have fox := hF2.opn.free x
  have hin := hF2.inner x hx
  rw [hR, hO] at hin
  have hFW := (hF2.alloc (.cells #[.int .i64 (i : Int)] 3)).drew
  have hown1 : ((wd.alloc (.cells #[.int .i64 (i : Int)] 3)).drew).ownsRow B 3 1 (.slice a 0 c) 0 [] := (hin.alloc _).drew
  have hcP : ((wd.alloc (.cells #[.int .i64 (i : Int)] 3)).drew).cell? ⟨wd.heap.size, 0, none⟩ = some (.int .i64 (i : Int)) := by simp
  have hBW : B ≤ wd.heap.size := by have := hF2.Bb.1; have := hF2.room.lt; omega
  have hm3 : B ≤ ((wd.alloc (.cells #[.int .i64 (i : Int)] 3)).drew).heap.size := by simp; omega
  have hm1 : 0 + 1 ≤ maxLen := by unfold maxLen; omega
  have hm2 : (0 + 1) * 8 ≤ 140737488355328 := by omega
  have hobs : ob < ((wd.alloc (.cells #[.int .i64 (i : Int)] 3)).drew).heap.size := hFW.opn.lt
  have hobn : (Value.slice a 0 c).ownBlock ≠ some ob := fun e => (hFW.neInner hx (by rw [hR]; exact e)).2.2 rfl
  have hrbs : rb < ((wd.alloc (.cells #[.int .i64 (i : Int)] 3)).drew).heap.size := hFW.room.lt
  have hrbn : (Value.slice a 0 c).ownBlock ≠ some rb := fun e => (hFW.neInner hx (by rw [hR]; exact e)).1 rfl
  have hcrb := hFW.roomCell.2.1
  have hcob := (hFW.opnCell hx)
  have hfob := hFW.opn.free x
  have HFW : Hid (FM ((wd.alloc (.cells #[.int .i64 (i : Int)] 3)).drew) B rb sb scap ob ocap oN R (upd S i { S i with sl := 0 }) sz O j) := hFW
  have HB2 : Hid (Below B w ((wd.alloc (.cells #[.int .i64 (i : Int)] 3)).drew)) := (hb2.alloc hBW _).drew
  clear hFW hF2 hb2 hin
  go_region_law (refine step_app1 _ rfl (.tmp 52) (.tmp 54) 24 rfl B 3 i3 (.int .i64 0) 8 Ybaf.underlying24 hi3 hz3 hs3 hb3 rfl (.slice a 0 c) 0 [] (by simp [Act.eval]) hown1 ⟨wd.heap.size, 0, none⟩ 1 (.int .i64 (i : Int)) (by simp [Act.eval]) hcP rfl hm1 hm2 hm3 ?_; intro v' w2 hown2 hg2 hf2; have gc := (World.cell?_of_block (a := ⟨ob, x, none⟩) (hg2.block ob hobs (fun e => hobn e.symm))).trans hcob; have gf := (World.frozen?_of_block (a := ⟨ob, x, none⟩) (hg2.block ob hobs (fun e => hobn e.symm))).trans hfob; have gr := (World.cell?_of_block (a := ⟨rb, 18, none⟩) (hg2.block rb hrbs (fun e => hrbn e.symm))).trans hcrb; rw [hR] at gc; obtain ⟨gv, cv, hv⟩ := own_slice hown2; rw [hv] at hown2 hf2 ⊢)
  all_goals
    go_wp2
    first | go_end0 | refine bodyPost_ret (results_none rfl _ _ _) rfl ?_
    have hfin := HFW.out.app (v' := _) hx hown2 (by rw [hR]; exact hg2) (by rw [hR]; exact hf2)
    have hz := HZ2.out
    have hg3 := hg2.size
    simp at hg3
    refine ⟨rfl, ⟨_, hfin.1, fun y => ?_⟩, HB2.out.trans hfin.2, fun d h1 h2 h3 h4 => ?_, ?_⟩
    · by_cases e : y = x
      · subst e
        rw [upd_self, hR]
        rcases hf2 with h | ⟨k, hk, hge⟩
        · exact .inl h
        · exact .inr ⟨k, hk, by have := hz.size; simp at hge; omega⟩
      · rw [upd_ne _ _ e]; exact .inl rfl
    · rw [Below.heap_setCell _ _ _ _ h3, hg2.block d (by have := hz.size; simp; omega) (fun e => h4 x hx (by rw [hR]; exact e.symm))]
      show (wd.alloc _).heap[d]? = _
      rw [Below.heap_alloc _ _ _ (by have := hz.size; omega)]
      exact hz.block d h2 h3
    · have := hz.size
      simp [World.setCell]
      omega
end

end Go.Proofs.YbulkafceFmt
