/-
  The law's own memory: the rank set and the plain model beside it.
-/
import Derived.Test.YbulkafaaDoorNew
import Derived.Test.YbulkafaaDoorNext
namespace Go.Proofs.YbulkafaaDoor
open Go.RowKit

/-- The model's cells. -/
def brow (M : Nat → Bool) (n : Nat) : Array Value := ((List.range n).map fun i => Value.bool (M i)).toArray
theorem brow_size (M : Nat → Bool) (n : Nat) : (brow M n).size = n := by simp [brow]
theorem brow_at (M : Nat → Bool) (n i : Nat) (h : i < n) : (brow M n)[i]? = some (.bool (M i)) := by simp [brow, h]
theorem brow_set (M N : Nat → Bool) (n i : Nat) (b : Bool) (hb : N i = b) (ho : ∀ j, j ≠ i → N j = M j) : (brow M n).setIfInBounds i (.bool b) = brow N n := by
  apply Array.ext_getElem?
  intro j
  rw [Array.getElem?_setIfInBounds]
  by_cases hj : j < n
  · rw [brow_at N n j hj, brow_at M n j hj]
    by_cases e : i = j
    · subst e; simp [brow_size, hj, hb]
    · simp [e, ho j (fun h => e h.symm)]
  · have h1 : (brow M n)[j]? = none := Array.getElem?_eq_none (by rw [brow_size]; omega)
    have h2 : (brow N n)[j]? = none := Array.getElem?_eq_none (by rw [brow_size]; omega)
    rw [h1, h2]
    split
    · rename_i e; subst e; simp [brow_size, hj]
    · rfl
theorem made_brow (n : Nat) : madeCells #[Value.bool false] n = brow (fun _ => false) n := by
  apply Array.ext'
  rw [toList_madeCells_one]
  simp [brow, List.map_const']

/-- The law's state: the rank set holds M, the model holds M, all in blocks of the call's own. -/
structure LW (w wr : World) (sb lb mb : Nat) (g : Nat → Nat) (K size : Nat) (M : Nat → Bool) : Prop where
  rs : RS wr sb lb g K size (mem M)
  md : wr.heap[mb]? = some (.cells (brow M size) 4 (0, 0))
  gs : ∀ l, l < K → w.heap.size ≤ g l
  gm : w.heap.size ≤ mb
  below : Below w.heap.size w wr
  lt : ∀ i, M i = true → i < size

section
variable {w wr wr' : World} {sb lb mb K size : Nat} {g : Nat → Nat} {M : Nat → Bool}

theorem LW.alloc (h : LW w wr sb lb mb g K size M) (o : Obj) : LW w (wr.alloc o) sb lb mb g K size M := by
  have e : ∀ {k : Nat} {x : Obj}, wr.heap[k]? = some x → (wr.alloc o).heap[k]? = some x := fun hk => by rw [Below.heap_alloc _ _ _ (lt_of_heap hk)]; exact hk
  obtain ⟨cap, hs⟩ := h.rs.s
  obtain ⟨cur, hc, hcl⟩ := h.rs.l
  exact ⟨⟨⟨cap, e hs⟩, ⟨cur, e hc, hcl⟩, fun l hl => e (h.rs.lev l hl), h.rs.inj⟩, e h.md, h.gs, h.gm, h.below.alloc h.below.size o, h.lt⟩

theorem LW.notg (h : LW w wr sb lb mb g K size M) : ¬ ∃ l, l < K ∧ mb = g l := by
  rintro ⟨l, hl, e⟩
  have := h.rs.lev l hl
  rw [← e, h.md] at this
  simp at this

/-- Behind a call that has turned the rank set. -/
theorem LW.turn (h : LW w wr sb lb mb g K size M) (ho : Only (fun b => ∃ l, l < K ∧ b = g l) wr wr') : wr'.heap[mb]? = some (.cells (brow M size) 4 (0, 0)) ∧ Below w.heap.size w wr' :=
  ⟨by rw [ho.block mb h.notg]; exact h.md, h.below.trans ⟨ho.os, ho.tape, ho.output, by rw [ho.size]; exact Nat.le_refl _, fun k hk => ho.block k (by rintro ⟨l, hl, rfl⟩; have := h.gs l hl; omega)⟩⟩

theorem LW.mcell (hm : wr.heap[mb]? = some (.cells (brow M size) 4 (0, 0))) {i : Nat} (hi : i < size) : wr.cell? ⟨mb, i, none⟩ = some (.bool (M i)) ∧ wr.frozen? ⟨mb, i, none⟩ = false :=
  ⟨by rw [cell_of_row wr mb i _ _ _ hm, brow_at M size i hi], by simp [World.frozen?, hm]⟩

/-- .. and a store into the model: the state of the other set. -/
theorem LW.store (h : LW w wr sb lb mb g K size M) (N : Nat → Bool) (hrs : RS wr' sb lb g K size (mem N)) (ho : Only (fun b => ∃ l, l < K ∧ b = g l) wr wr') (r : Nat) (b : Bool) (hb : N r = b) (hne : ∀ j, j ≠ r → N j = M j) (hN : ∀ i, N i = true → i < size) :
    LW w (wr'.setCell ⟨mb, r, none⟩ (.bool b)) sb lb mb g K size N := by
  obtain ⟨hm, hbl⟩ := h.turn ho
  have e : ∀ {k : Nat} {cs : Array Value} {t : Nat}, wr'.heap[k]? = some (.cells cs t (0, 0)) → t ≠ 4 → (wr'.setCell ⟨mb, r, none⟩ (.bool b)).heap[k]? = some (.cells cs t (0, 0)) := fun hk ht => by
    rw [Below.heap_setCell _ _ _ _ (fun e => by have e' : _ = mb := e; rw [e', hm] at hk; simp at hk; exact ht hk.2.symm)]; exact hk
  obtain ⟨cap, hs⟩ := hrs.s
  obtain ⟨cur, hc, hcl⟩ := hrs.l
  refine ⟨⟨⟨cap, e hs (by decide)⟩, ⟨cur, e hc (by decide), hcl⟩, fun l hl => e (hrs.lev l hl) (by decide), hrs.inj⟩, ?_, h.gs, h.gm, hbl.setCell h.gm _, hN⟩
  simp only [World.setCell, Array.getElem?_modify, if_true, hm, Option.map_some]
  simp [brow_set M N size r b hb hne]

theorem plus_lt (h : ∀ i, M i = true → i < size) {r : Nat} (hr : r < size) : ∀ i, plus M r i = true → i < size := by
  intro i hi
  simp [plus] at hi
  rcases hi with hi | hi
  · exact h i hi
  · omega
theorem minus_lt (h : ∀ i, M i = true → i < size) {r : Nat} : ∀ i, minus M r i = true → i < size := by
  intro i hi
  simp [minus] at hi
  exact h i hi.1

theorem TabAt.below {n : Nat} {tab : List Nat} (h : TabAt 0 tab w) (h0 : 0 < w.heap.size) (hb : Below w.heap.size w wr) (hn : n = 0) : TabAt n tab wr := by
  subst hn
  intro j hj
  rw [hb.cell (by exact h0)]
  exact h j hj
end

/-- The start: the rank set laid by newRankSet, copied into a variable, and the empty model. -/
theorem lw_start {w w1 : World} {size K lb cap : Nat} {g : Nat → Nat} (h : NJ w w1 size K (.slice (some ⟨lb, 0, none⟩) K cap) g) :
    LW w ((w1.alloc (.cells #[.int .i64 size, .slice (some ⟨lb, 0, none⟩) K cap] 26)).alloc (.cells (madeCells #[Value.bool false] size) 4)) w1.heap.size lb (w1.heap.size + 1) g K size (fun _ => false) := by
  have hb := h.below
  have hsz := hb.size
  have e : ∀ {k : Nat} {x : Obj}, w1.heap[k]? = some x → ((w1.alloc (.cells #[.int .i64 size, .slice (some ⟨lb, 0, none⟩) K cap] 26)).alloc (.cells (madeCells #[Value.bool false] size) 4)).heap[k]? = some x := fun hk => by
    have := lt_of_heap hk
    rw [Below.heap_alloc _ _ _ (by simp; omega), Below.heap_alloc _ _ _ this]; exact hk
  refine ⟨⟨⟨cap, ?_⟩, ?_, fun l hl => e (h.lev l hl), h.inj⟩, ?_, fun l hl => by have := h.ge l hl; omega, by omega, (hb.alloc hsz _).alloc (by simp; omega) _, fun i hi => by cases hi⟩
  · rw [Below.heap_alloc _ _ _ (by simp)]; exact heap_alloc_new w1 _
  · rcases h.own.2 with ⟨h0, _⟩ | ⟨gg, c2, cur, hv, _, hh, hle, _, hcs, htake⟩
    · cases h0
    · cases hv
      refine ⟨cur, e hh, fun l hl => ?_⟩
      have h1 : (cur.toList.take (K * 1))[l]? = (lvs size g K)[l]? := by rw [htake]
      rw [List.getElem?_take, if_pos (by omega)] at h1
      have h2 : (lvs size g K)[l]? = some (.slice (some ⟨g l, 0, none⟩) (len size l) (len size l)) := by simp [lvs, hl]
      rw [h2] at h1
      simpa using h1
  · have := heap_alloc_new (w1.alloc (.cells #[.int .i64 size, .slice (some ⟨lb, 0, none⟩) K cap] 26)) (.cells (madeCells #[Value.bool false] size) 4)
    rw [made_brow] at this ⊢
    simpa using this

end Go.Proofs.YbulkafaaDoor
