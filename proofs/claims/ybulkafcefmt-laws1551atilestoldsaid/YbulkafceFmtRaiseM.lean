/-
  raise: the frontier in memory beside the copied segment.
-/
import Derived.Test.YbulkafceFmtX
import Derived.Test.YbulkafceFmtRaiseP
namespace Go.Proofs.YbulkafceFmt
open Go.RowKit

section
variable {B rb sb scap ob ocap oN : Nat} {R : Nat → Value} {S : Nat → En} {sz : Nat} {O : Nat → Option Nat} {j : Nat}

theorem FM.six {w : World} (h : FM w B rb sb scap ob ocap oN R S sz O j) (e : En) : FX (w.alloc (.cells (sixA e) 56)) B rb sb scap ob ocap oN R S sz O j w.heap.size e w := by
  refine ⟨h.alloc _, heap_alloc_new _ _, ⟨?_, ?_, ?_⟩, fun y hy hb => ?_, ?_, ?_⟩
  · have := h.room.lt; omega
  · have := h.seg.lt; omega
  · have := h.opn.lt; omega
  · obtain ⟨cur, hc⟩ := own_row (h.inner y hy) hb
    have := lt_heap hc
    omega
  · have := h.Bb.1; have := h.room.lt; omega
  · intro d cs hd
    rw [Below.heap_alloc _ _ _ (lt_heap hd)]
    exact hd

theorem FX.copy {w : World} {n0 : Nat} {e : En} {w0 : World} (h : FX w B rb sb scap ob ocap oN R S sz O j n0 e w0) {k : Nat} (hk : k < 6) : w.cell? ⟨n0, k, none⟩ = some (fld e k) := by
  simp only [World.cell?, h.own]
  match k, hk with
  | 0, _ => rfl
  | 1, _ => rfl
  | 2, _ => rfl
  | 3, _ => rfl
  | 4, _ => rfl
  | 5, _ => rfl

theorem FX.keep {w w' : World} {n0 : Nat} {e : En} {w0 : World} (h : FX w B rb sb scap ob ocap oN R S sz O j n0 e w0) (hk : ∀ b, b < w.heap.size → w'.heap[b]? = w.heap[b]?) : FX w' B rb sb scap ob ocap oN R S sz O j n0 e w0 :=
  ⟨h.fm.keep hk, by rw [hk n0 (lt_heap h.own)]; exact h.own, h.ne, h.nr, h.ge, fun d cs hd => by have hw := h.pr d cs hd; rw [hk d (lt_heap hw)]; exact hw⟩
theorem FX.quiet {w w' : World} {n0 : Nat} {e : En} {w0 : World} (h : FX w B rb sb scap ob ocap oN R S sz O j n0 e w0) (hq : Quiet w w') : FX w' B rb sb scap ob ocap oN R S sz O j n0 e w0 := h.keep fun b _ => by rw [hq.heap]
theorem FX.alloc {w : World} {n0 : Nat} {e : En} {w0 : World} (h : FX w B rb sb scap ob ocap oN R S sz O j n0 e w0) (o : Obj) : FX (w.alloc o) B rb sb scap ob ocap oN R S sz O j n0 e w0 := h.keep fun _ hb => Below.heap_alloc _ _ _ hb
theorem FX.drew {w : World} {n0 : Nat} {e : En} {w0 : World} (h : FX w B rb sb scap ob ocap oN R S sz O j n0 e w0) : FX w.drew B rb sb scap ob ocap oN R S sz O j n0 e w0 := h.keep fun _ _ => rfl
theorem FX.drewN {w : World} {n0 : Nat} {e : En} {w0 : World} (h : FX w B rb sb scap ob ocap oN R S sz O j n0 e w0) (n : Nat) : FX (w.drewN n) B rb sb scap ob ocap oN R S sz O j n0 e w0 := h.keep fun _ _ => rfl

theorem FX.setNodes {w : World} {n0 : Nat} {e : En} {w0 : World} (h : FX w B rb sb scap ob ocap oN R S sz O j n0 e w0) {i : Nat} (hi : i < sz) (z : Nat) : FX (w.setCell ⟨sb, i * 6 + 1, none⟩ (.int .i64 (z : Int))) B rb sb scap ob ocap oN R (upd S i { S i with n := z }) sz O j n0 e w0 :=
  ⟨h.fm.setNodes hi z, by rw [Below.heap_setCell _ _ _ _ h.ne.2.1]; exact h.own, h.ne, h.nr, h.ge, fun d cs hd => by have hw := h.pr d cs hd; rw [Below.heap_setCell _ _ _ _ (h.fm.ne44 hw).2.1]; exact hw⟩
theorem FX.setHeight {w : World} {n0 : Nat} {e : En} {w0 : World} (h : FX w B rb sb scap ob ocap oN R S sz O j n0 e w0) {i : Nat} (hi : i < sz) (z : Nat) : FX (w.setCell ⟨sb, i * 6 + 2, none⟩ (.int .i64 (z : Int))) B rb sb scap ob ocap oN R (upd S i { S i with h := z }) sz O j n0 e w0 :=
  ⟨h.fm.setHeight hi z, by rw [Below.heap_setCell _ _ _ _ h.ne.2.1]; exact h.own, h.ne, h.nr, h.ge, fun d cs hd => by have hw := h.pr d cs hd; rw [Below.heap_setCell _ _ _ _ (h.fm.ne44 hw).2.1]; exact hw⟩
theorem FX.setPrev {w : World} {n0 : Nat} {e : En} {w0 : World} (h : FX w B rb sb scap ob ocap oN R S sz O j n0 e w0) {i : Nat} (hi : i < sz) (z : Int) : FX (w.setCell ⟨sb, i * 6 + 3, none⟩ (.int .i64 (z : Int))) B rb sb scap ob ocap oN R (upd S i { S i with p := z }) sz O j n0 e w0 :=
  ⟨h.fm.setPrev hi z, by rw [Below.heap_setCell _ _ _ _ h.ne.2.1]; exact h.own, h.ne, h.nr, h.ge, fun d cs hd => by have hw := h.pr d cs hd; rw [Below.heap_setCell _ _ _ _ (h.fm.ne44 hw).2.1]; exact hw⟩
theorem FX.setNext {w : World} {n0 : Nat} {e : En} {w0 : World} (h : FX w B rb sb scap ob ocap oN R S sz O j n0 e w0) {i : Nat} (hi : i < sz) (z : Int) : FX (w.setCell ⟨sb, i * 6 + 4, none⟩ (.int .i64 (z : Int))) B rb sb scap ob ocap oN R (upd S i { S i with x := z }) sz O j n0 e w0 :=
  ⟨h.fm.setNext hi z, by rw [Below.heap_setCell _ _ _ _ h.ne.2.1]; exact h.own, h.ne, h.nr, h.ge, fun d cs hd => by have hw := h.pr d cs hd; rw [Below.heap_setCell _ _ _ _ (h.fm.ne44 hw).2.1]; exact hw⟩

theorem FX.appSeg {W w1 : World} {v' : Value} {n0 : Nat} {c : En} {w0 : World} (h : FX W B rb sb scap ob ocap oN R S sz O j n0 c w0) (e : En) (hown : w1.ownsRow B 56 6 v' (sz + 1) (flat S sz ++ six e)) (hg : W.grownBy w1 (some sb)) (hf : Fresh W (.slice (some ⟨sb, 0, none⟩) sz scap) v') :
    ∃ sb' scap', v' = .slice (some ⟨sb', 0, none⟩) (sz + 1) scap' ∧ FX (w1.setCell ⟨rb, 17, none⟩ v') B rb sb' scap' ob ocap oN R (upd S sz e) (sz + 1) O j n0 c w0 ∧ Below B W (w1.setCell ⟨rb, 17, none⟩ v') := by
  obtain ⟨sb', scap', hv, h1, h2⟩ := h.fm.appSeg e hown hg
  refine ⟨sb', scap', hv, ⟨h1, ?_, ⟨h.ne.1, ?_, h.ne.2.2⟩, h.nr, h.ge, fun d cs hd => ?_⟩, h2⟩
  · rw [Below.heap_setCell _ _ _ _ h.ne.1, hg.block n0 (lt_heap h.own) (fun e => h.ne.2.1 (Option.some.inj e))]
    exact h.own
  · rw [hv] at hf
    have hl := lt_heap h.own
    rcases hf with e | ⟨k, hk, hge⟩
    · simp [Value.ownBlock] at e
      rw [e]; exact h.ne.2.1
    · simp [Value.ownBlock] at hk
      omega
  · have hw := h.pr d cs hd
    obtain ⟨m1, m2, _⟩ := h.fm.ne44 hw
    rw [Below.heap_setCell _ _ _ _ m1, hg.block d (lt_heap hw) (fun e => m2 (Option.some.inj e))]
    exact hw

theorem sgs_close {X Y : List Nat} {i : Nat} {v : Int} : sgs (upd S i { S i with sl := v }) (X ++ i :: Y) = sgs S X ++ ⟨(S i).f, (S i).n, (S i).h⟩ :: sgs S Y := by
  rw [sgs_slot]
  simp [sgs]
  rfl
end

/-- The last of it: the closed segment is opened again. -/
theorem raise_end {B rb sb scap ob ocap oN : Nat} {R : Nat → Value} {S : Nat → En} {sz : Nat} {O : Nat → Option Nat} {j n0 n c k i : Nat} {e : En} {w0 : World} {live : List Nat} (w : World) (hj : j < 7) (hX : FX w B rb sb scap ob ocap oN R S sz O j n0 e w0)
    (hP : Part j S sz live i O) (hle : (S i).h ≤ 2 ^ j) (hI : Inv n j c k (sgs S live)) (hT : TabAt 0 Lib.deBruijn64tab w) :
    Calls Ybaf.prog 14 #[.pointer (some ⟨rb, 17, none⟩), .int .i64 (i : Int)] w fun en w' => en = .returned (.tuple #[]) ∧ (∃ R' S' O', FM w' B rb sb scap ob ocap oN R' S' sz O' j ∧ St j S' sz live O' ∧ sgs S' live = sgs S live) ∧ Below B w w' ∧ K44 w0 w' := by
  have hd := hI.dist hP.ch
  refine (reopen_x i w hj hX (hP.ch.lt i hP.mem) hle (fun ho => hP.none hd ho) hT).mono fun en w' ⟨h1, ⟨R', h2⟩, h3⟩ => ?_
  exact ⟨h1, ⟨R', _, _, h2.fm, hP.reopen hd rfl, sgs_slot⟩, h3, h2.pr⟩

/-- What raise has done so far: the closed segment i has W nodes; what is left of it stands behind it. -/
structure PhB (w wd : World) (B rb ob ocap oN : Nat) (S : Nat → En) (X Y : List Nat) (i W sz j n0 : Nat) (e : En) : Prop where
  ex : ∃ sb scap R S2 sz2 O2 Z, FX wd B rb sb scap ob ocap oN R S2 sz2 O2 j n0 e w ∧ Part j S2 sz2 (X ++ i :: Z) i O2 ∧ sgs S2 (X ++ i :: Z) = sgs S X ++ ⟨(S i).f, W, (S i).h⟩ :: (restOf (S i).sg W ++ sgs S Y) ∧ sz2 ≤ sz + 1
  bel : Below B w wd

end Go.Proofs.YbulkafceFmt
