/-
  The stages of a round: what each statement makes of the state.
-/
import Derived.Test.YbulkafaaOut
import Derived.Deep.DeepCutAuto
namespace Go.Proofs.Ybulkafaa
open Go.RowKit Go.Sort

/-- What came in: the levels' rows and their steps. -/
structure In (w : World) (p : Option Addr) (n0 : Nat) (Av : Nat → Option Addr) (Ln Cp : Nat → Nat) (G D : Nat → Nat → Nat) (X : Nat → Nat → Bool) : Prop where
  row : ∀ i, i < n0 → ∃ b o, p = some ⟨b, o, none⟩ ∧ w.cell? ⟨b, o + i, none⟩ = some (.slice (Av i) (Ln i) (Cp i))
  len : ∀ i, i < n0 → Ln i ≤ maxLen
  step : ∀ i, i < n0 → ∀ j, j < Ln i → ∃ b o, Av i = some ⟨b, o, none⟩ ∧ w.cell? ⟨b, o + j * 3, none⟩ = some (.int .u8 (G i j : Nat)) ∧ w.cell? ⟨b, o + j * 3 + 1, none⟩ = some (.int .u8 (D i j : Nat)) ∧ w.cell? ⟨b, o + j * 3 + 2, none⟩ = some (.bool (X i j)) ∧ G i j < 256 ∧ D i j < 256

/-- The tables of each level. -/
def levelT (n0 : Nat) (Ln : Nat → Nat) (G D : Nat → Nat → Nat) (X : Nat → Nat → Bool) (l : Nat) : List Tri := if l < n0 then tris (G l) (D l) (X l) (Ln l) else []

/-- The round's state: so many elements in each of the four rows. -/
def INS (w wl wr : World) (l : Nat) (A0 : Nat → Nat → Value) (g d : Nat → Nat) (x : Nat → Bool) (rc : Array Value) (j0 j1 j2 j3 : Nat) : Prop :=
  ∃ A L, IN w wl wr l A L (triAt g d x) rc ∧ (L 0).length = j0 ∧ L 1 = ints Tri.s (tris g d x j1) ∧ L 2 = ints Tri.e (tris g d x j2) ∧ L 3 = bools (tris g d x j3) ∧ ∀ r k, r < 4 → k ≠ l → A r k = A0 r k
/-- The round's state behind j steps. -/
def INJ (w wl wr : World) (l : Nat) (A0 : Nat → Nat → Value) (g d : Nat → Nat) (x : Nat → Bool) (rc : Array Value) (j : Nat) : Prop := INS w wl wr l A0 g d x rc j j j j

/-- .. with a new table at hand, and the step's own variable. -/
structure Mid22 (w wl wr : World) (l : Nat) (A0 : Nat → Nat → Value) (g d : Nat → Nat) (x : Nat → Bool) (rc : Array Value) (j : Nat) (v : Value) (sb : Nat) (sc : Array Value) : Prop where
  inj : INJ w wl wr l A0 g d x rc j
  tab : TabB (hz (w.heap.size + 5) wr) v (triAt g d x j)
  sv : wr.heap[sb]? = some (.cells sc 43 (0, 0))

/-- .. behind the first rows' appends. -/
structure Stg (w wl wr : World) (l : Nat) (A0 : Nat → Nat → Value) (g d : Nat → Nat) (x : Nat → Bool) (rc : Array Value) (j0 j1 j2 j3 : Nat) (sb : Nat) (sc : Array Value) : Prop where
  ins : INS w wl wr l A0 g d x rc j0 j1 j2 j3
  sv : wr.heap[sb]? = some (.cells sc 43 (0, 0))

section
variable {w wl wr : World} {l : Nat} {A0 : Nat → Nat → Value} {g d : Nat → Nat} {x : Nat → Bool} {rc : Array Value}

theorem INS.grow {w1 : World} {j0 j1 j2 j3 : Nat} (h : INS w wl wr l A0 g d x rc j0 j1 j2 j3) (hb : Below wr.heap.size wr w1) : INS w wl w1 l A0 g d x rc j0 j1 j2 j3 := by
  obtain ⟨A, L, hI, r⟩ := h
  exact ⟨A, L, hI.grow hb, r⟩

theorem ext_alloc (Z : Nat) (w : World) (o : Obj) : ExtAll (hz Z w) (hz Z (w.alloc o)) := by
  intro b o' hb
  obtain ⟨h1, h2⟩ := hz_heap hb
  unfold hz
  rw [if_pos h2, Below.heap_alloc _ _ _ (lt_heap h1)]
  exact h1

theorem key_new (Z : Nat) (w : World) (n : Nat) (hn : n < 65536) (hZ : Z ≤ w.heap.size) : KeyB (hz Z (w.alloc (.cells (kcells n) 5))) (.slice (some ⟨w.heap.size, 0, none⟩) 2 2) n :=
  ⟨hn, w.heap.size, rfl, by unfold hz; rw [if_pos hZ]; exact heap_alloc_new w _⟩

/-- A new table, its two keys laid first. -/
theorem mid22_new {j s e pb : Nat} {xb : Bool} {sc cs : Array Value} (h : INJ w wl wr l A0 g d x rc j) (ht : triAt g d x j = ⟨s, e, xb⟩) (hs : s < 65536) (he : e < 65536)
    (c1 : cs[11]? = some (.slice (some ⟨wr.heap.size + 1, 0, none⟩) 2 2)) (c2 : cs[12]? = some (.slice (some ⟨wr.heap.size + 1 + 1, 0, none⟩) 2 2)) (c3 : cs[13]? = some (.bool xb)) (hpb : pb = wr.heap.size + 1 + 1 + 1) :
    Mid22 w wl ((((wr.alloc (.cells sc 43)).alloc (.cells (kcells s) 5)).alloc (.cells (kcells e) 5)).alloc (.cells cs 61)).drew l A0 g d x rc j (.pointer (some ⟨pb, 0, none⟩)) wr.heap.size sc := by
  subst hpb
  have hZ : w.heap.size + 5 ≤ wr.heap.size := by obtain ⟨A, L, hI, _⟩ := h; exact Nat.le_trans hI.zl hI.sz
  have hb : Below wr.heap.size wr ((((wr.alloc (.cells sc 43)).alloc (.cells (kcells s) 5)).alloc (.cells (kcells e) 5)).alloc (.cells cs 61)).drew :=
    (((((Below.refl _ _).alloc (Nat.le_refl _) _).alloc (by simp) _).alloc (by simp; omega) _).alloc (by simp; omega) _).drew
  refine ⟨INS.grow h hb, ?_, ?_⟩
  · rw [ht]
    refine ⟨wr.heap.size + 1 + 1 + 1, cs, _, _, rfl, ?_, c1, c2, c3, ?_, ?_⟩
    · show hz _ ((((wr.alloc _).alloc _).alloc _).alloc _) _ = _
      unfold hz
      rw [if_pos (by omega)]
      have := heap_alloc_new (((wr.alloc (.cells sc 43)).alloc (.cells (kcells s) 5)).alloc (.cells (kcells e) 5)) (.cells cs 61)
      simpa using this
    · have k := key_new (w.heap.size + 5) (wr.alloc (.cells sc 43)) s hs (by simp; omega)
      have k2 := ((k.ext (Ext.of_all (ext_alloc _ _ (.cells (kcells e) 5)))).ext (Ext.of_all (ext_alloc _ _ (.cells cs 61))))
      simp only [World.size_alloc] at k2
      exact k2
    · have k := key_new (w.heap.size + 5) ((wr.alloc (.cells sc 43)).alloc (.cells (kcells s) 5)) e he (by simp; omega)
      have k2 := k.ext (Ext.of_all (ext_alloc _ _ (.cells cs 61)))
      simp only [World.size_alloc] at k2
      exact k2
  · show ((((wr.alloc _).alloc _).alloc _).alloc _).heap[wr.heap.size]? = _
    rw [Below.heap_alloc _ _ _ (by simp; omega), Below.heap_alloc _ _ _ (by simp; omega), Below.heap_alloc _ _ _ (by simp)]
    exact heap_alloc_new wr _
end

section
variable {w wl wr : World} {l n : Nat} {A0 : Nat → Nat → Value} {g d : Nat → Nat} {x : Nat → Bool} {rc : Array Value} {T : Nat → List Tri}
theorem inj_start (h : OUT w wl l A0 T rc) (hl : l < 7) : INJ w wl wl l A0 g d x rc 0 :=
  ⟨A0, fun _ => [], h.start hl, rfl, rfl, rfl, rfl, fun _ _ _ _ => rfl⟩

theorem inj_end (h : OUT w wl l A0 T rc) (hl : l < 7) (hin : INJ w wl wr l A0 g d x rc n) (hT : T l = tris g d x n) : ∃ B, OUT w wr (l + 1) B T rc := by
  obtain ⟨A, L, hI, h0, h1, h2, h3, hA⟩ := hin
  refine ⟨A, h.next hl hI n _ hT (tris_len g d x n) (fun j t ht => ?_) h0 h1 h2 h3 hA⟩
  have hj : j < n := by have := (List.getElem?_eq_some_iff.1 ht).1; rwa [tris_len] at this
  rw [tris_at g d x hj] at ht
  exact (Option.some.inj ht).symm
end

/-! ### one row's append, and the store of the new value -/
section
variable {w wl wr w1 : World} {l : Nat} {A0 : Nat → Nat → Value} {g d : Nat → Nat} {x : Nat → Bool} {rc : Array Value}

/-- What the walk wants of row r ahead of its append: the value, the cell, the owned row, what comes of it. -/
theorem INS.view {j0 j1 j2 j3 : Nat} (h : INS w wl wr l A0 g d x rc j0 j1 j2 j3) (hl : l < 7) : ∃ v0 v1 v2 v3 ps,
    wr.cell? ⟨w.heap.size + 1, 1 + l, none⟩ = some v0 ∧ wr.frozen? ⟨w.heap.size + 1, 1 + l, none⟩ = false ∧
    wr.cell? ⟨w.heap.size + 1 + 1, l, none⟩ = some v1 ∧ wr.frozen? ⟨w.heap.size + 1 + 1, l, none⟩ = false ∧
    wr.cell? ⟨w.heap.size + 1 + 1 + 1, l, none⟩ = some v2 ∧ wr.frozen? ⟨w.heap.size + 1 + 1 + 1, l, none⟩ = false ∧
    wr.cell? ⟨w.heap.size + 1 + 1 + 1 + 1, l, none⟩ = some v3 ∧ wr.frozen? ⟨w.heap.size + 1 + 1 + 1 + 1, l, none⟩ = false ∧
    wr.ownsRow wl.heap.size 44 1 v0 j0 ps ∧ wr.ownsRow wl.heap.size 3 1 v1 j1 (ints Tri.s (tris g d x j1)) ∧ wr.ownsRow wl.heap.size 3 1 v2 j2 (ints Tri.e (tris g d x j2)) ∧ wr.ownsRow wl.heap.size 4 1 v3 j3 (bools (tris g d x j3)) ∧
    (∀ (W w1 : World) (v' y : Value), Below wr.heap.size wr W → w1.ownsRow wl.heap.size 44 1 v' (j0 + 1) (ps ++ [y]) → W.grownBy w1 v0.ownBlock → Fresh W v0 v' → TabB (hz (w.heap.size + 5) W) y (triAt g d x j0) → INS w wl (w1.setCell ⟨w.heap.size + 1, 1 + l, none⟩ v') l A0 g d x rc (j0 + 1) j1 j2 j3) ∧
    (∀ (W w1 : World) (v' y : Value), Below wr.heap.size wr W → w1.ownsRow wl.heap.size 3 1 v' (j1 + 1) (ints Tri.s (tris g d x j1) ++ [y]) → W.grownBy w1 v1.ownBlock → Fresh W v1 v' → y = .int .i64 (triAt g d x j1).s → INS w wl (w1.setCell ⟨w.heap.size + 1 + 1, l, none⟩ v') l A0 g d x rc j0 (j1 + 1) j2 j3) ∧
    (∀ (W w1 : World) (v' y : Value), Below wr.heap.size wr W → w1.ownsRow wl.heap.size 3 1 v' (j2 + 1) (ints Tri.e (tris g d x j2) ++ [y]) → W.grownBy w1 v2.ownBlock → Fresh W v2 v' → y = .int .i64 (triAt g d x j2).e → INS w wl (w1.setCell ⟨w.heap.size + 1 + 1 + 1, l, none⟩ v') l A0 g d x rc j0 j1 (j2 + 1) j3) ∧
    (∀ (W w1 : World) (v' y : Value), Below wr.heap.size wr W → w1.ownsRow wl.heap.size 4 1 v' (j3 + 1) (bools (tris g d x j3) ++ [y]) → W.grownBy w1 v3.ownBlock → Fresh W v3 v' → y = .bool (triAt g d x j3).x → INS w wl (w1.setCell ⟨w.heap.size + 1 + 1 + 1 + 1, l, none⟩ v') l A0 g d x rc j0 j1 j2 (j3 + 1)) := by
  obtain ⟨A, L, hI, h0, h1, h2, h3, hA⟩ := h
  have c0 := (hI.arr 0 (by omega)).cell hl
  have c1 := (hI.arr 1 (by omega)).cell hl
  have c2 := (hI.arr 2 (by omega)).cell hl
  have c3 := (hI.arr 3 (by omega)).cell hl
  have r0 := hI.row 0 (by omega)
  have r1 := hI.row 1 (by omega)
  have r2 := hI.row 2 (by omega)
  have r3 := hI.row 3 (by omega)
  have e1 : (L 1).length = j1 := by rw [h1]; simp [ints, tris_len]
  have e2 : (L 2).length = j2 := by rw [h2]; simp [ints, tris_len]
  have e3 : (L 3).length = j3 := by rw [h3]; simp [bools, tris_len]
  rw [h0] at r0
  rw [e1, h1] at r1
  rw [e2, h2] at r2
  rw [e3, h3] at r3
  simp only [off, Nat.zero_add] at c0 c1 c2 c3
  have hA' : ∀ r (v' : Value), r < 4 → ∀ r' k, r' < 4 → k ≠ l → (if r' = r then upd (A r) l v' else A r') k = A0 r' k := by
    intro r v' hr r' k hr' hk
    by_cases e : r' = r
    · subst e; simp [upd, hk, hA _ _ hr' hk]
    · simp [e, hA _ _ hr' hk]
  refine ⟨A 0 l, A 1 l, A 2 l, A 3 l, L 0, c0.1, c0.2, c1.1, c1.2, c2.1, c2.2, c3.1, c3.2, r0, r1, r2, r3, ?_, ?_, ?_, ?_⟩
  · intro W w1 v' y hb hown hg hf ht
    have hI2 := (hI.grow hb).app hl (r := 0) (by omega) (y := y) (by rw [h0]; exact hown) hg hf (fun _ => by rw [h0]; exact ht)
    exact ⟨_, _, hI2, by simp [h0], by simp [h1], by simp [h2], by simp [h3], hA' 0 v' (by omega)⟩
  · intro W w1 v' y hb hown hg hf hy
    have hI2 := (hI.grow hb).app hl (r := 1) (by omega) (y := y) (by rw [e1, h1]; exact hown) hg hf (fun h => by omega)
    simp only [off, Nat.zero_add] at hI2
    exact ⟨_, _, hI2, by simp [h0], by simp [h1, ints, tris_succ, hy], by simp [h2], by simp [h3], hA' 1 v' (by omega)⟩
  · intro W w1 v' y hb hown hg hf hy
    have hI2 := (hI.grow hb).app hl (r := 2) (by omega) (y := y) (by rw [e2, h2]; exact hown) hg hf (fun h => by omega)
    simp only [off, Nat.zero_add] at hI2
    exact ⟨_, _, hI2, by simp [h0], by simp [h1], by simp [h2, ints, tris_succ, hy], by simp [h3], hA' 2 v' (by omega)⟩
  · intro W w1 v' y hb hown hg hf hy
    have hI2 := (hI.grow hb).app hl (r := 3) (by omega) (y := y) (by rw [e3, h3]; exact hown) hg hf (fun h => by omega)
    simp only [off, Nat.zero_add] at hI2
    exact ⟨_, _, hI2, by simp [h0], by simp [h1], by simp [h2], by simp [h3, bools, tris_succ, hy], hA' 3 v' (by omega)⟩
end

/-- A block below the rows, behind an append. -/
theorem grown_low {W w1 : World} {B e n b : Nat} {v : Value} {xs : List Value} (hown : W.ownsRow B e 1 v n xs) (hg : W.grownBy w1 v.ownBlock) (hb : b < B) (hW : b < W.heap.size) : w1.heap[b]? = W.heap[b]? :=
  hg.block b hW (fun h => by have := (hown.lt b h.symm).1; omega)
theorem grown_cell {W w1 : World} {B e n b o : Nat} {v : Value} {xs : List Value} (hown : W.ownsRow B e 1 v n xs) (hg : W.grownBy w1 v.ownBlock) (hb : b < B) (hW : b < W.heap.size) : w1.cell? ⟨b, o, none⟩ = W.cell? ⟨b, o, none⟩ ∧ w1.frozen? ⟨b, o, none⟩ = W.frozen? ⟨b, o, none⟩ :=
  ⟨World.cell?_of_block (grown_low hown hg hb hW), World.frozen?_of_block (grown_low hown hg hb hW)⟩
theorem own_slice {w : World} {B e n : Nat} {v : Value} {xs : List Value} (h : w.ownsRow B e 1 v (n + 1) xs) : ∃ g c, v = .slice (some ⟨g, 0, none⟩) (n + 1) c := by
  rcases h.2 with ⟨_, h0⟩ | ⟨g, cap, cur, hv, _⟩
  · omega
  · exact ⟨g, cap, hv⟩
/-- A block of another type than the row's, behind an append and a store into a low block. -/
theorem kept_other {W w1 : World} {B e n b c o : Nat} {v u : Value} {xs : List Value} {cs : Array Value} {t : Nat} (hown : W.ownsRow B e 1 v n xs) (hg : W.grownBy w1 v.ownBlock) (hb : W.heap[b]? = some (.cells cs t (0, 0))) (ht : t ≠ e) (hc : b ≠ c) :
    (w1.setCell ⟨c, o, none⟩ u).heap[b]? = some (.cells cs t (0, 0)) := by
  rw [Below.heap_setCell _ _ _ _ hc, hg.block b (lt_heap hb) (fun h => ?_)]
  · exact hb
  · rcases hown.2 with ⟨h1, _⟩ | ⟨g, cap, cur, hv, _, hh, _⟩
    · rw [h1] at h; cases h
    · rw [hv] at h; simp [Value.ownBlock] at h; subst h; rw [hb] at hh; simp at hh; exact ht hh.2
theorem alloc_heap {w : World} {b : Nat} {o o1 : Obj} (h : w.heap[b]? = some o) : (w.alloc o1).heap[b]? = some o := by rw [Below.heap_alloc _ _ _ (lt_heap h)]; exact h

/-! ### behind the building -/

theorem out_fin {w wc : World} {n0 k : Nat} {Ln : Nat → Nat} {G D : Nat → Nat → Nat} {X : Nat → Nat → Bool} {A : Nat → Nat → Value} {rc : Array Value} (h : OUT w wc k A (levelT n0 Ln G D X) rc) (hk : k = min n0 7) :
    ∀ l, l < 7 → FinB (hz (w.heap.size + 5) wc) (fun r => A r l) (levelT n0 Ln G D X l) := by
  intro l hl
  by_cases e : l < k
  · exact h.fin l e
  · have : levelT n0 Ln G D X l = [] := by unfold levelT; rw [if_neg (by omega)]
    rw [this]
    exact finB_nil _ (fun r hr => h.nil l (by omega) hl r hr)

theorem level_ok {n0 k : Nat} {Ln : Nat → Nat} {G D : Nat → Nat → Nat} {X : Nat → Nat → Bool} (hk : k = min n0 7) (hs : ∀ j, j < k → Ln j ≤ 1024) : ∀ l, l < 7 → (levelT n0 Ln G D X l).length ≤ 1024 ∧ Ordered (levelT n0 Ln G D X l) := by
  intro l hl
  unfold levelT
  split
  · rename_i h; exact ⟨by rw [tris_len]; exact hs l (by omega), tris_ordered _ _ _ _⟩
  · exact ⟨by simp, fun a b ta tb _ ha => by simp at ha⟩

theorem fin_tabs {Z : Nat} {w : World} {A : Nat → Value} {ts : List Tri} (h : FinB (hz Z w) A ts) : Tabs w (A 0) ts := by
  obtain ⟨ps, hr, hl, ht⟩ := h.t
  obtain ⟨p, cap, hv, hc, hcell⟩ := hr.cells
  refine ⟨p, cap, by rw [hv, hl], by omega, fun j t hj => ?_⟩
  have hj' : j < ps.length := by rw [hl]; exact (List.getElem?_eq_some_iff.1 hj).1
  obtain ⟨b, hp, hb⟩ := hcell j hj'
  refine ⟨b, 0, ps[j], hp, by rw [Nat.zero_add, hb]; exact List.getElem?_eq_getElem hj', (ht j _ t (List.getElem?_eq_getElem hj') hj).tab⟩

/-- What the scan reads of level l. -/
theorem fin_row {Z : Nat} {w : World} {e : Nat} {v : Value} {xs : List Value} (h : RowB (hz Z w) e v xs) : ∃ p cap, v = .slice p xs.length cap ∧ ∀ j x, xs[j]? = some x → ∃ b, p = some ⟨b, 0, none⟩ ∧ w.cell? ⟨b, j, none⟩ = some x := by
  obtain ⟨p, cap, hv, _, hc⟩ := h.cells
  refine ⟨p, cap, hv, fun j x hj => ?_⟩
  obtain ⟨b, hp, hb⟩ := hc j (List.getElem?_eq_some_iff.1 hj).1
  exact ⟨b, hp, by rw [hb]; exact hj⟩

/-- The scan's answer over the levels below l. -/
def clr (T : Nat → List Tri) (out rs re : Nat) (rx : Bool) (l : Nat) : Bool := (List.range l).all fun k => decide (k ≤ out) || !hit (T k) rs re rx
theorem clr_start (T : Nat → List Tri) (out rs re : Nat) (rx : Bool) : clr T out rs re rx (out + 1) = true := by
  unfold clr
  rw [List.all_eq_true]
  intro k hk
  have := List.mem_range.1 hk
  simp; left; omega
theorem clr_succ (T : Nat → List Tri) (out rs re l : Nat) (rx : Bool) (h : out < l) : clr T out rs re rx (l + 1) = (clr T out rs re rx l && !hit (T l) rs re rx) := by
  unfold clr
  rw [List.range_succ, List.all_append]
  have : decide (l ≤ out) = false := by simp; omega
  simp [this]
/-- .. and over the first j tables of a level. -/
def part (ts : List Tri) (rs re : Nat) (rx : Bool) (j : Nat) : Bool := (ts.take j).any (over rs re rx)
theorem part_zero (ts : List Tri) (rs re : Nat) (rx : Bool) : part ts rs re rx 0 = false := by simp [part]
theorem part_all (ts : List Tri) (rs re : Nat) (rx : Bool) : part ts rs re rx ts.length = hit ts rs re rx := by simp [part, hit]
theorem part_succ {ts : List Tri} {rs re j : Nat} {rx : Bool} {t : Tri} (h : ts[j]? = some t) : part ts rs re rx (j + 1) = (part ts rs re rx j || over rs re rx t) := by
  unfold part
  rw [List.take_add_one, h, List.any_append]
  simp

/-- nothingBelow, called as the law calls it. -/
def cCmp : Obj := .cells #[.string ⟨#[122, 122]⟩, .func (.func 5) #[] #[], .nilFunc] 66
def cCpt (a b out : Nat) : Obj := .cells #[.pointer (some ⟨a, 0, none⟩), .pointer (some ⟨b, 0, none⟩), .slice none 0 0, .slice none 0 0, .slice none 0 0, .slice none 0 0, .slice none 0 0, .slice none 0 0, .slice none 0 0, .int .i64 out] 68

theorem nb_call {wc : World} {sb out rs re : Nat} {rx : Bool} {tv : Nat → Value} {T : Nat → List Tri} (hL : Levels wc sb tv T) (ho : out ≤ 6) (hrs : rs < 65536) (hre : re < 65536) :
    Calls Yba.prog 6 #[.pointer (some ⟨wc.heap.size + 1, 0, none⟩), .agg #[.slice (some ⟨wc.heap.size + 1 + 1, 0, none⟩) 2 2, .slice (some ⟨wc.heap.size + 1 + 1 + 1, 0, none⟩) 2 2, .bool rx]]
      ((((wc.alloc cCmp).alloc (cCpt wc.heap.size sb out)).alloc (.cells (kcells rs) 5)).alloc (.cells (kcells re) 5)).drew fun e w' => e = .returned (.bool (clear T out rs re rx)) ∧ Below wc.heap.size wc w' := by
  have hb : Below wc.heap.size wc ((((wc.alloc cCmp).alloc (cCpt wc.heap.size sb out)).alloc (.cells (kcells rs) 5)).alloc (.cells (kcells re) 5)).drew :=
    (((((Below.refl _ _).alloc (Nat.le_refl _) _).alloc (by simp) _).alloc (by simp; omega) _).alloc (by simp; omega) _).drew
  generalize hW : ((((wc.alloc cCmp).alloc (cCpt wc.heap.size sb out)).alloc (.cells (kcells rs) 5)).alloc (.cells (kcells re) 5)).drew = W at *
  have h0 : W.heap[wc.heap.size]? = some cCmp := by
    rw [← hW]
    show ((((wc.alloc _).alloc _).alloc _).alloc _).heap[wc.heap.size]? = _
    rw [Below.heap_alloc _ _ _ (by simp; omega), Below.heap_alloc _ _ _ (by simp; omega), Below.heap_alloc _ _ _ (by simp)]
    exact heap_alloc_new wc _
  have h1 : W.heap[wc.heap.size + 1]? = some (cCpt wc.heap.size sb out) := by
    rw [← hW]
    show ((((wc.alloc _).alloc _).alloc _).alloc _).heap[wc.heap.size + 1]? = _
    rw [Below.heap_alloc _ _ _ (by simp), Below.heap_alloc _ _ _ (by simp)]
    have := heap_alloc_new (wc.alloc cCmp) (cCpt wc.heap.size sb out)
    simpa using this
  have h2 : W.heap[wc.heap.size + 1 + 1]? = some (.cells (kcells rs) 5 (0, 0)) := by
    rw [← hW]
    show ((((wc.alloc _).alloc _).alloc _).alloc _).heap[wc.heap.size + 1 + 1]? = _
    rw [Below.heap_alloc _ _ _ (by simp)]
    have := heap_alloc_new ((wc.alloc cCmp).alloc (cCpt wc.heap.size sb out)) (.cells (kcells rs) 5)
    simpa using this
  have h3 : W.heap[wc.heap.size + 1 + 1 + 1]? = some (.cells (kcells re) 5 (0, 0)) := by
    rw [← hW]
    show ((((wc.alloc _).alloc _).alloc _).alloc _).heap[wc.heap.size + 1 + 1 + 1]? = _
    have := heap_alloc_new (((wc.alloc cCmp).alloc (cCpt wc.heap.size sb out)).alloc (.cells (kcells rs) 5)) (.cells (kcells re) 5)
    simpa using this
  have k0 : Key W (.slice (some ⟨wc.heap.size + 1 + 1, 0, none⟩) 2 2) rs := ⟨hrs, _, rfl, by rw [cell_of_row _ _ 0 _ _ _ h2]; rfl, by rw [cell_of_row _ _ 1 _ _ _ h2]; rfl⟩
  have k1 : Key W (.slice (some ⟨wc.heap.size + 1 + 1 + 1, 0, none⟩) 2 2) re := ⟨hre, _, rfl, by rw [cell_of_row _ _ 0 _ _ _ h3]; rfl, by rw [cell_of_row _ _ 1 _ _ _ h3]; rfl⟩
  refine (nothing_any (wc.heap.size + 1) wc.heap.size sb out _ _ tv T rs re rx W ho ?_ ?_ ?_ ?_ (hL.below hb) k0 k1).mono ?_
  · rw [cell_of_row _ _ 0 _ _ _ h1]; rfl
  · rw [cell_of_row _ _ 1 _ _ _ h1]; rfl
  · rw [cell_of_row _ _ 9 _ _ _ h1]; rfl
  · rw [cell_of_row _ _ 1 _ _ _ h0]; rfl
  · rintro e w' ⟨rfl, hb2⟩
    exact ⟨rfl, hb.trans (hb2.mono hb.size)⟩

theorem levels_of {w wc : World} {A : Nat → Nat → Value} {T : Nat → List Tri} (hF : ∀ l, l < 7 → FinB (hz (w.heap.size + 5) wc) (fun r => A r l) (T l)) (hOK : ∀ l, l < 7 → (T l).length ≤ 1024 ∧ Ordered (T l)) (hA : Blk wc (w.heap.size + 1) 37 1 (A 0)) :
    Levels wc (w.heap.size + 1) (A 0) T :=
  ⟨fun _ hl => (hA.cell hl).1, fun l hl => fin_tabs (hF l hl), fun l hl => (hOK l hl).1, fun l hl => (hOK l hl).2⟩

theorem over_bef (rs re : Nat) (rx : Bool) (t : Tri) : over rs re rx t = (!bef t.e t.x rs && !bef re rx t.s) := rfl

end Go.Proofs.Ybulkafaa
