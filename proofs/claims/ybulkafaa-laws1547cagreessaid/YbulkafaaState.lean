/-
  The memory that the law builds: four arrays of seven rows, and the tables behind the first.
-/
import Derived.Test.YbulkafaaBelow
import Derived.Test.YbulkafaaApp
namespace Go.Proofs.Ybulkafaa
open Go.RowKit Go.Sort

/-- A view of a heap: which block holds what. -/
def hz (Z : Nat) (w : World) : Nat → Option Obj := fun b => if Z ≤ b then w.heap[b]? else none
def Ext (h h' : Nat → Option Obj) : Prop := ∀ b cs t, h b = some (.cells cs t (0, 0)) → (t = 5 ∨ t = 61) → h' b = some (.cells cs t (0, 0))
def ExtAll (h h' : Nat → Option Obj) : Prop := ∀ b o, h b = some o → h' b = some o

def KeyB (h : Nat → Option Obj) (v : Value) (n : Nat) : Prop := n < 65536 ∧ ∃ b, v = .slice (some ⟨b, 0, none⟩) 2 2 ∧ h b = some (.cells (kcells n) 5 (0, 0))
def TabB (h : Nat → Option Obj) (v : Value) (t : Tri) : Prop :=
  ∃ (b : Nat) (cs : Array Value) (ks ke : Value), v = .pointer (some ⟨b, 0, none⟩) ∧ h b = some (.cells cs 61 (0, 0)) ∧ cs[11]? = some ks ∧ cs[12]? = some ke ∧ cs[13]? = some (.bool t.x) ∧ KeyB h ks t.s ∧ KeyB h ke t.e
/-- A row of one-cell elements. -/
def RowB (h : Nat → Option Obj) (e : Nat) (v : Value) (xs : List Value) : Prop :=
  ∃ p cap, v = .slice p xs.length cap ∧ xs.length ≤ cap ∧ (xs = [] ∨ ∃ g cur, p = some ⟨g, 0, none⟩ ∧ h g = some (.cells cur e (0, 0)) ∧ ∀ j, j < xs.length → cur[j]? = xs[j]?)

theorem Ext.of_all {h h' : Nat → Option Obj} (e : ExtAll h h') : Ext h h' := fun b _ _ hb _ => e b _ hb
theorem KeyB.ext {h h' : Nat → Option Obj} {v : Value} {n : Nat} (k : KeyB h v n) (e : Ext h h') : KeyB h' v n := by
  obtain ⟨hn, b, hv, hb⟩ := k
  exact ⟨hn, b, hv, e b _ _ hb (.inl rfl)⟩
theorem TabB.ext {h h' : Nat → Option Obj} {v : Value} {t : Tri} (k : TabB h v t) (e : Ext h h') : TabB h' v t := by
  obtain ⟨b, cs, ks, ke, hv, hb, c1, c2, c3, k1, k2⟩ := k
  exact ⟨b, cs, ks, ke, hv, e b _ _ hb (.inr rfl), c1, c2, c3, k1.ext e, k2.ext e⟩
theorem RowB.ext {h h' : Nat → Option Obj} {e : Nat} {v : Value} {xs : List Value} (k : RowB h e v xs) (x : ExtAll h h') : RowB h' e v xs := by
  obtain ⟨p, cap, hv, hc, hr⟩ := k
  refine ⟨p, cap, hv, hc, ?_⟩
  rcases hr with hr | ⟨g, cur, hp, hg, hcur⟩
  · exact .inl hr
  · exact .inr ⟨g, cur, hp, x g _ hg, hcur⟩

theorem hz_heap {Z : Nat} {w : World} {b : Nat} {o : Obj} (h : hz Z w b = some o) : w.heap[b]? = some o ∧ Z ≤ b := by
  unfold hz at h
  split at h
  · rename_i hb; exact ⟨h, hb⟩
  · cases h

theorem KeyB.key {Z : Nat} {w : World} {v : Value} {n : Nat} (k : KeyB (hz Z w) v n) : Key w v n := by
  obtain ⟨hn, b, hv, hb⟩ := k
  have := (hz_heap hb).1
  exact ⟨hn, b, hv, by rw [cell_of_row _ _ 0 _ _ _ this]; rfl, by rw [cell_of_row _ _ 1 _ _ _ this]; rfl⟩
theorem TabB.tab {Z : Nat} {w : World} {v : Value} {t : Tri} (k : TabB (hz Z w) v t) : Tab w v t := by
  obtain ⟨b, cs, ks, ke, hv, hb, c1, c2, c3, k1, k2⟩ := k
  have := (hz_heap hb).1
  exact ⟨b, ks, ke, hv, by rw [cell_of_row _ _ 11 _ _ _ this]; exact c1, by rw [cell_of_row _ _ 12 _ _ _ this]; exact c2, by rw [cell_of_row _ _ 13 _ _ _ this]; exact c3, k1.key, k2.key⟩
theorem RowB.cells {Z : Nat} {w : World} {e : Nat} {v : Value} {xs : List Value} (k : RowB (hz Z w) e v xs) : ∃ p cap, v = .slice p xs.length cap ∧ xs.length ≤ cap ∧ ∀ j, j < xs.length → ∃ b, p = some ⟨b, 0, none⟩ ∧ w.cell? ⟨b, j, none⟩ = xs[j]? := by
  obtain ⟨p, cap, hv, hc, hr⟩ := k
  refine ⟨p, cap, hv, hc, fun j hj => ?_⟩
  rcases hr with hr | ⟨g, cur, hp, hg, hcur⟩
  · subst hr; simp at hj
  · exact ⟨g, hp, by rw [cell_of_row _ _ j _ _ _ (hz_heap hg).1]; exact hcur j hj⟩

/-! ### the four arrays -/
/-- Of array r: the block's type, where the seven rows begin, the rows' element type. -/
def bty : Nat → Nat | 0 => 37 | 3 => 41 | _ => 39
def off : Nat → Nat | 0 => 1 | _ => 0
def ety : Nat → Nat | 0 => 44 | 3 => 4 | _ => 3

def Blk (w : World) (b T o : Nat) (A : Nat → Value) : Prop := ∃ cs, w.heap[b]? = some (.cells cs T (0, 0)) ∧ ∀ k, k < 7 → cs[o + k]? = some (A k)
def upd (A : Nat → Value) (l : Nat) (v : Value) : Nat → Value := fun k => if k = l then v else A k

section
variable {w w' : World} {b T o : Nat} {A : Nat → Value}
theorem Blk.cell (h : Blk w b T o A) {k : Nat} (hk : k < 7) : w.cell? ⟨b, o + k, none⟩ = some (A k) ∧ w.frozen? ⟨b, o + k, none⟩ = false := by
  obtain ⟨cs, hb, hc⟩ := h
  exact ⟨by rw [cell_of_row _ _ _ _ _ _ hb]; exact hc k hk, by simp [World.frozen?, hb]⟩
theorem Blk.keep (h : Blk w b T o A) (e : w'.heap[b]? = w.heap[b]?) : Blk w' b T o A := by
  obtain ⟨cs, hb, hc⟩ := h
  exact ⟨cs, by rw [e]; exact hb, hc⟩
theorem Blk.set (h : Blk w b T o A) {l : Nat} (hl : l < 7) (v : Value) : Blk (w.setCell ⟨b, o + l, none⟩ v) b T o (upd A l v) := by
  obtain ⟨cs, hb, hc⟩ := h
  refine ⟨cs.setIfInBounds (o + l) v, ?_, fun k hk => ?_⟩
  · simp only [World.setCell, Array.getElem?_modify, if_true, hb, Option.map_some]; simp
  · rw [Array.getElem?_setIfInBounds]
    unfold upd
    have hlt : o + l < cs.size := (Array.getElem?_eq_some_iff.1 (hc l hl)).1
    by_cases e : k = l
    · subst e; simp [hlt]
    · rw [if_neg (by omega), if_neg e]; exact hc k hk
end

/-- The round's state at level l. -/
structure IN (w wl wr : World) (l : Nat) (A : Nat → Nat → Value) (L : Nat → List Value) (tri : Nat → Tri) (rc : Array Value) : Prop where
  bel : Below w.heap.size w wr
  mid : ∀ k, w.heap.size + 5 ≤ k → k < wl.heap.size → wr.heap[k]? = wl.heap[k]?
  sz : wl.heap.size ≤ wr.heap.size
  zl : w.heap.size + 5 ≤ wl.heap.size
  arr : ∀ r, r < 4 → Blk wr (w.heap.size + 1 + r) (bty r) (off r) (A r)
  row : ∀ r, r < 4 → wr.ownsRow wl.heap.size (ety r) 1 (A r l) (L r).length (L r)
  dis : ∀ r r', r < 4 → r' < 4 → r ≠ r' → ∀ k, (A r l).ownBlock = some k → (A r' l).ownBlock ≠ some k
  tab : ∀ j v, (L 0)[j]? = some v → TabB (hz (w.heap.size + 5) wr) v (tri j)
  rb : wr.heap[w.heap.size]? = some (.cells rc 25 (0, 0))

theorem lt_heap {w : World} {b : Nat} {o : Obj} (h : w.heap[b]? = some o) : b < w.heap.size := (Array.getElem?_eq_some_iff.1 h).1

section
variable {w wl wr w1 : World} {l : Nat} {A : Nat → Nat → Value} {L : Nat → List Value} {tri : Nat → Tri} {rc : Array Value}

/-- New blocks and draws turn nothing. -/
theorem IN.grow (h : IN w wl wr l A L tri rc) (hb : Below wr.heap.size wr w1) : IN w wl w1 l A L tri rc := by
  have keep : ∀ {k : Nat} {o : Obj}, wr.heap[k]? = some o → w1.heap[k]? = some o := fun hk => by rw [hb.block _ (lt_heap hk)]; exact hk
  refine ⟨h.bel.trans (hb.mono h.bel.size), fun k h1 h2 => ?_, Nat.le_trans h.sz hb.size, h.zl, fun r hr => ?_, fun r hr => ?_, h.dis, fun j v hv => ?_, keep h.rb⟩
  · rw [hb.block k (by have := h.sz; omega)]; exact h.mid k h1 h2
  · obtain ⟨cs, hc, _⟩ := h.arr r hr
    exact (h.arr r hr).keep (hb.block _ (lt_heap hc))
  · have := h.row r hr
    refine ⟨this.1, ?_⟩
    rcases this.2 with h2 | ⟨g, cap, cur, hv, hg, hh, rest⟩
    · exact .inl h2
    · exact .inr ⟨g, cap, cur, hv, hg, keep hh, rest⟩
  · refine (h.tab j v hv).ext (Ext.of_all fun b o hb' => ?_)
    obtain ⟨h1, h2⟩ := hz_heap hb'
    unfold hz
    rw [if_pos h2]
    exact keep h1

theorem ety_ne (r : Nat) : ety r ≠ 5 ∧ ety r ≠ 61 ∧ ety r ≠ 25 := by unfold ety; split <;> decide
theorem bty_ne (r : Nat) : bty r ≠ 5 ∧ bty r ≠ 61 ∧ bty r ≠ 25 := by unfold bty; split <;> decide

/-- append to row r, and the new value stored into the array. -/
theorem IN.app (h : IN w wl wr l A L tri rc) (hl : l < 7) {r : Nat} (hr : r < 4) {v' y : Value} (hown : w1.ownsRow wl.heap.size (ety r) 1 v' ((L r).length + 1) (L r ++ [y])) (hg : wr.grownBy w1 (A r l).ownBlock) (hf : Fresh wr (A r l) v')
    (ht : r = 0 → TabB (hz (w.heap.size + 5) wr) y (tri (L 0).length)) :
    IN w wl (w1.setCell ⟨w.heap.size + 1 + r, off r + l, none⟩ v') l (fun k => if k = r then upd (A r) l v' else A k) (fun k => if k = r then L r ++ [y] else L k) tri rc := by
  have hbase : ∀ k, (A r l).ownBlock = some k → wl.heap.size ≤ k := fun k hk => ((h.row r hr).lt k hk).1
  have hsz := h.sz
  have hzl := h.zl
  -- a block that is not row r's, in w1
  have keep1 : ∀ {k : Nat}, k < wr.heap.size → (A r l).ownBlock ≠ some k → w1.heap[k]? = wr.heap[k]? := fun hk hn => hg.block _ hk (fun e => hn e.symm)
  -- .. and behind the store
  have keep2 : ∀ {k : Nat}, k ≠ w.heap.size + 1 + r → (w1.setCell ⟨w.heap.size + 1 + r, off r + l, none⟩ v').heap[k]? = w1.heap[k]? := fun hk => Below.heap_setCell _ _ _ _ hk
  have lowne : ∀ k, k < wl.heap.size → (A r l).ownBlock ≠ some k := fun k hk e => by have := hbase k e; omega
  have tyne : ∀ {k : Nat} {cs : Array Value} {t : Nat}, wr.heap[k]? = some (.cells cs t (0, 0)) → t ≠ ety r → (A r l).ownBlock ≠ some k := fun hk ht e => by
    rcases (h.row r hr).2 with ⟨h1, _⟩ | ⟨g, cap, cur, hv, _, hh, _⟩
    · rw [h1] at e; cases e
    · rw [hv] at e; simp [Value.ownBlock] at e; subst e; rw [hk] at hh; simp at hh; exact ht hh.2
  have arrlt : ∀ r', r' < 4 → w.heap.size + 1 + r' < wl.heap.size := fun r' hr' => by omega
  refine ⟨?_, fun k h1 h2 => ?_, ?_, hzl, fun r' hr' => ?_, fun r' hr' => ?_, fun r1 r2 h1 h2 hne k hk => ?_, fun j v hv => ?_, ?_⟩
  · exact (h.bel.grown hg h.bel.size (fun k hk => by have := hbase k hk; omega)).setCell (by show w.heap.size ≤ w.heap.size + 1 + r; omega) _
  · rw [keep2 (by omega), keep1 (by omega) (lowne k h2)]; exact h.mid k h1 h2
  · show wl.heap.size ≤ (w1.setCell _ _).heap.size
    have := hg.size
    simp [World.setCell]
    omega
  · obtain ⟨cs, hc, _⟩ := h.arr r' hr'
    have hk := (h.arr r' hr').keep (keep1 (lt_heap hc) (lowne _ (arrlt r' hr')))
    by_cases e : r' = r
    · subst e; rw [if_pos rfl]; exact hk.set hl v'
    · rw [if_neg e]; exact hk.keep (keep2 (by omega))
  · by_cases e : r' = r
    · subst e
      simp only [if_true]
      have : upd (A r') l v' l = v' := by simp [upd]
      rw [this]
      have h2 := ownsRow_setCell_below hown (a := ⟨w.heap.size + 1 + r', off r' + l, none⟩) (by show w.heap.size + 1 + r' < wl.heap.size; omega) v'
      simpa using h2
    · simp only [if_neg e]
      have hrow := h.row r' hr'
      refine ⟨hrow.1, ?_⟩
      rcases hrow.2 with h2 | ⟨g, cap, cur, hv, hgb, hh, rest⟩
      · exact .inl h2
      · refine .inr ⟨g, cap, cur, hv, hgb, ?_, rest⟩
        rw [keep2 (by omega), keep1 (lt_heap hh) (fun e' => h.dis r r' hr hr' (fun x => e x.symm) g e' (by rw [hv]; rfl))]
        exact hh
  · -- the rows lie apart
    have hrn : ∀ r', r' < 4 → ∀ k, (A r' l).ownBlock = some k → k < wr.heap.size := fun r' hr' k hk => ((h.row r' hr').lt k hk).2
    by_cases e1 : r1 = r
    · have e2 : ¬ r2 = r := fun e => hne (by omega)
      simp only [if_pos e1, if_neg e2, upd, if_true] at hk ⊢
      intro e'
      rcases hf with hf | ⟨k', hf, hk'⟩
      · rw [hf] at hk; exact h.dis r r2 hr h2 (fun x => e2 x.symm) k hk e'
      · rw [hf] at hk; cases hk; have := hrn r2 h2 _ e'; omega
    · by_cases e2 : r2 = r
      · simp only [if_neg e1, if_pos e2, upd, if_true] at hk ⊢
        intro e'
        rcases hf with hf | ⟨k', hf, hk'⟩
        · rw [hf] at e'; exact h.dis r r1 hr h1 (fun x => e1 x.symm) k e' hk
        · rw [hf] at e'; cases e'; have := hrn r1 h1 _ hk; omega
      · simp only [if_neg e1, if_neg e2] at hk ⊢
        exact h.dis r1 r2 h1 h2 hne k hk
  · have hext : Ext (hz (w.heap.size + 5) wr) (hz (w.heap.size + 5) (w1.setCell ⟨w.heap.size + 1 + r, off r + l, none⟩ v')) := by
      intro b cs t hb ht
      obtain ⟨h1, h2⟩ := hz_heap hb
      unfold hz
      rw [if_pos h2, keep2 (by omega), keep1 (lt_heap h1) (tyne h1 (by have := ety_ne r; rcases ht with rfl | rfl; exact fun e => this.1 e.symm; exact fun e => this.2.1 e.symm))]
      exact h1
    by_cases e : r = 0
    · subst e
      simp only [if_true] at hv
      rw [List.getElem?_append] at hv
      split at hv
      · exact (h.tab j v hv).ext hext
      · rename_i hj
        have hj0 : j - (L 0).length = 0 := by
          rcases Nat.eq_zero_or_pos (j - (L 0).length) with h0 | h0
          · exact h0
          · rw [List.getElem?_eq_none (by simp; omega)] at hv; cases hv
        rw [hj0] at hv
        simp at hv
        subst hv
        rw [show j = (L 0).length by omega]
        exact (ht rfl).ext hext
    · have e' : ¬ 0 = r := fun x => e x.symm
      simp only [if_neg e'] at hv
      exact (h.tab j v hv).ext hext
  · rw [keep2 (by omega), keep1 (lt_heap h.rb) (lowne _ (by omega))]; exact h.rb
end

end Go.Proofs.Ybulkafaa
