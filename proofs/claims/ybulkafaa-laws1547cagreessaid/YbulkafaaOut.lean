/-
  The tables of a level as numbers; the state between two levels.
-/
import Derived.Test.YbulkafaaState
namespace Go.Proofs.Ybulkafaa
open Go.RowKit Go.Sort

/-- Where the next table may begin, behind j steps. -/
def curAt (g d : Nat → Nat) (x : Nat → Bool) : Nat → Nat
  | 0 => 0
  | j + 1 => curAt g d x j + g j % 4 + d j % 4 + 1
def endAt (g d : Nat → Nat) (x : Nat → Bool) (j : Nat) : Nat := curAt g d x j + g j % 4 + d j % 4 + (if x j then 1 else 0)
def triAt (g d : Nat → Nat) (x : Nat → Bool) (j : Nat) : Tri := ⟨curAt g d x j + g j % 4, endAt g d x j, x j⟩
def tris (g d : Nat → Nat) (x : Nat → Bool) (n : Nat) : List Tri := (List.range n).map (triAt g d x)

section
variable (g d : Nat → Nat) (x : Nat → Bool)
theorem cur_le : ∀ j, curAt g d x j ≤ 7 * j
  | 0 => Nat.le_refl _
  | j + 1 => by have := cur_le j; unfold curAt; omega
theorem cur_mono {a b : Nat} (h : a ≤ b) : curAt g d x a ≤ curAt g d x b := by
  induction b with
  | zero => rw [show a = 0 by omega]; exact Nat.le_refl _
  | succ b ih =>
    by_cases e : a = b + 1
    · rw [e]; exact Nat.le_refl _
    · have := ih (by omega); show _ ≤ curAt g d x b + g b % 4 + d b % 4 + 1; omega
theorem cur_next (j : Nat) : curAt g d x (j + 1) = if x j then endAt g d x j else endAt g d x j + 1 := by
  unfold endAt
  show curAt g d x j + g j % 4 + d j % 4 + 1 = _
  split <;> simp
theorem end_le (j : Nat) : endAt g d x j ≤ 7 * j + 7 := by
  have := cur_le g d x j
  unfold endAt
  split <;> omega

theorem tris_at {n j : Nat} (h : j < n) : (tris g d x n)[j]? = some (triAt g d x j) := by simp [tris, h]
theorem tris_len (n : Nat) : (tris g d x n).length = n := by simp [tris]
theorem tris_succ (n : Nat) : tris g d x (n + 1) = tris g d x n ++ [triAt g d x n] := by simp [tris, List.range_succ]

theorem tris_ordered (n : Nat) : Ordered (tris g d x n) := by
  intro a b ta tb hab ha hb
  have ha' : a < n := by have := (List.getElem?_eq_some_iff.1 ha).1; rwa [tris_len] at this
  have hb' : b < n := by have := (List.getElem?_eq_some_iff.1 hb).1; rwa [tris_len] at this
  rw [tris_at g d x ha'] at ha
  rw [tris_at g d x hb'] at hb
  cases ha
  cases hb
  have h1 := cur_next g d x a
  have h2 := cur_mono g d x (show a + 1 ≤ b by omega)
  simp only [triAt, endAt] at *
  cases hxa : x a <;> cases hxb : x b <;> simp [hxa] at h1 <;> simp <;> omega
end

/-! ### between two levels -/

def ints (f : Tri → Nat) (ts : List Tri) : List Value := ts.map fun t => .int .i64 (f t)
def bools (ts : List Tri) : List Value := ts.map fun t => .bool t.x

/-- A level that stands: its four rows. -/
structure FinB (h : Nat → Option Obj) (A : Nat → Value) (ts : List Tri) : Prop where
  t : ∃ ps : List Value, RowB h 44 (A 0) ps ∧ ps.length = ts.length ∧ ∀ (j : Nat) (v : Value) (t : Tri), ps[j]? = some v → ts[j]? = some t → TabB h v t
  s : RowB h 3 (A 1) (ints Tri.s ts)
  e : RowB h 3 (A 2) (ints Tri.e ts)
  x : RowB h 4 (A 3) (bools ts)

theorem FinB.ext {h h' : Nat → Option Obj} {A : Nat → Value} {ts : List Tri} (k : FinB h A ts) (e : ExtAll h h') : FinB h' A ts := by
  obtain ⟨⟨ps, r0, hl, ht⟩, r1, r2, r3⟩ := k
  exact ⟨⟨ps, r0.ext e, hl, fun j v t h1 h2 => (ht j v t h1 h2).ext (Ext.of_all e)⟩, r1.ext e, r2.ext e, r3.ext e⟩

theorem FinB.congr {h : Nat → Option Obj} {A B : Nat → Value} {ts : List Tri} (k : FinB h A ts) (e : ∀ r, r < 4 → A r = B r) : FinB h B ts := by
  obtain ⟨⟨ps, r0, hl, ht⟩, r1, r2, r3⟩ := k
  exact ⟨⟨ps, by rw [← e 0 (by omega)]; exact r0, hl, ht⟩, by rw [← e 1 (by omega)]; exact r1, by rw [← e 2 (by omega)]; exact r2, by rw [← e 3 (by omega)]; exact r3⟩

theorem rowB_nil (h : Nat → Option Obj) (e : Nat) : RowB h e (.slice none 0 0) [] := ⟨none, 0, rfl, Nat.le_refl _, .inl rfl⟩
theorem finB_nil (h : Nat → Option Obj) {A : Nat → Value} (e : ∀ r, r < 4 → A r = .slice none 0 0) : FinB h A [] := by
  refine ⟨⟨[], by rw [e 0 (by omega)]; exact rowB_nil _ _, rfl, fun j v t h1 _ => by simp at h1⟩, by rw [e 1 (by omega)]; exact rowB_nil _ _, by rw [e 2 (by omega)]; exact rowB_nil _ _, by rw [e 3 (by omega)]; exact rowB_nil _ _⟩

theorem rowB_own {w : World} {Z B e n : Nat} {v : Value} {xs : List Value} (h : w.ownsRow B e 1 v n xs) (hZ : Z ≤ B) : RowB (hz Z w) e v xs := by
  have hl : xs.length = n := by have := h.1; omega
  rcases h.2 with ⟨rfl, rfl⟩ | ⟨g, cap, cur, rfl, hg, hh, hnc, _, hcs, htake⟩
  · have : xs = [] := List.eq_nil_of_length_eq_zero hl
    subst this
    exact rowB_nil _ _
  · refine ⟨some ⟨g, 0, none⟩, cap, by rw [hl], by omega, .inr ⟨g, cur, rfl, by unfold hz; rw [if_pos (by omega)]; exact hh, fun j hj => ?_⟩⟩
    have h2 : (cur.toList.take (n * 1))[j]? = xs[j]? := by rw [htake]
    rw [List.getElem?_take, if_pos (by omega)] at h2
    simpa using h2

/-- The state ahead of level l: the levels below stand, the others are empty. -/
structure OUT (w wr : World) (l : Nat) (A : Nat → Nat → Value) (T : Nat → List Tri) (rc : Array Value) : Prop where
  bel : Below w.heap.size w wr
  zl : w.heap.size + 5 ≤ wr.heap.size
  arr : ∀ r, r < 4 → Blk wr (w.heap.size + 1 + r) (bty r) (off r) (A r)
  fin : ∀ k, k < l → FinB (hz (w.heap.size + 5) wr) (fun r => A r k) (T k)
  nil : ∀ k, l ≤ k → k < 7 → ∀ r, r < 4 → A r k = .slice none 0 0
  rb : wr.heap[w.heap.size]? = some (.cells rc 25 (0, 0))

section
variable {w wl wr w1 : World} {l : Nat} {A B : Nat → Nat → Value} {L : Nat → List Value} {T : Nat → List Tri} {tri : Nat → Tri} {rc : Array Value}

theorem OUT.start (h : OUT w wl l A T rc) (hl : l < 7) : IN w wl wl l A (fun _ => []) tri rc :=
  ⟨h.bel, fun _ _ _ => rfl, Nat.le_refl _, h.zl, h.arr, fun r hr => by rw [h.nil l (Nat.le_refl _) hl r hr]; exact World.ownsRow_nil _ _ _ _, fun r r' hr _ _ k hk => (by rw [h.nil l (Nat.le_refl _) hl r hr] at hk; cases hk), fun j v hv => (by simp at hv), h.rb⟩

theorem OUT.next (h : OUT w wl l A T rc) (hl : l < 7) (hin : IN w wl wr l B L tri rc) (n : Nat) (ts : List Tri) (hT : T l = ts) (hn : ts.length = n) (hts : ∀ j t, ts[j]? = some t → t = tri j)
    (h0 : (L 0).length = n) (h1 : L 1 = ints Tri.s ts) (h2 : L 2 = ints Tri.e ts) (h3 : L 3 = bools ts) (hB : ∀ r k, r < 4 → k ≠ l → B r k = A r k) : OUT w wr (l + 1) B T rc := by
  refine ⟨hin.bel, Nat.le_trans hin.zl hin.sz, hin.arr, fun k hk => ?_, fun k h1 h2 r hr => by rw [hB r k hr (by omega)]; exact h.nil k (by omega) h2 r hr, hin.rb⟩
  by_cases e : k = l
  · subst e
    rw [hT]
    refine ⟨⟨L 0, rowB_own (hin.row 0 (by omega)) hin.zl, by omega, fun j v t hv ht => by rw [hts j t ht]; exact hin.tab j v hv⟩, ?_, ?_, ?_⟩
    · rw [← h1]; exact rowB_own (hin.row 1 (by omega)) hin.zl
    · rw [← h2]; exact rowB_own (hin.row 2 (by omega)) hin.zl
    · rw [← h3]; exact rowB_own (hin.row 3 (by omega)) hin.zl
  · refine ((h.fin k (by omega)).congr (B := fun r => B r k) (fun r hr => (hB r k hr e).symm)).ext fun b o hb => ?_
    obtain ⟨hb1, hb2⟩ := hz_heap hb
    unfold hz
    rw [if_pos hb2, hin.mid b hb2 (lt_heap hb1)]
    exact hb1
end

/-- The start: the range's box, the read state and the three arrays. -/
def z37 : Array Value := #[.pointer none, .slice none 0 0, .slice none 0 0, .slice none 0 0, .slice none 0 0, .slice none 0 0, .slice none 0 0, .slice none 0 0, .slice none 0 0, .slice none 0 0, .slice none 0 0, .slice none 0 0, .slice none 0 0, .slice none 0 0, .slice none 0 0, .slice none 0 0, .int .i32 0]
def z7 : Array Value := #[.slice none 0 0, .slice none 0 0, .slice none 0 0, .slice none 0 0, .slice none 0 0, .slice none 0 0, .slice none 0 0]
def five (w : World) (rc : Array Value) : World := ((((w.alloc (.cells rc 25)).alloc (.cells z37 37)).alloc (.cells z7 39)).alloc (.cells z7 39)).alloc (.cells z7 41)

theorem out_start (w : World) (rc : Array Value) (T : Nat → List Tri) : OUT w (five w rc) 0 (fun _ _ => .slice none 0 0) T rc := by
  have hsz : (five w rc).heap.size = w.heap.size + 5 := by simp [five]
  have hb : Below w.heap.size w (five w rc) := (((((Below.refl _ _).alloc (Nat.le_refl _) _).alloc (by simp) _).alloc (by simp; omega) _).alloc (by simp; omega) _).alloc (by simp; omega) _
  have a0 : (five w rc).heap[w.heap.size]? = some (.cells rc 25 (0, 0)) := by
    unfold five
    rw [Below.heap_alloc _ _ _ (by simp; omega), Below.heap_alloc _ _ _ (by simp; omega), Below.heap_alloc _ _ _ (by simp; omega), Below.heap_alloc _ _ _ (by simp)]
    exact heap_alloc_new w _
  have a1 : (five w rc).heap[w.heap.size + 1 + 0]? = some (.cells z37 37 (0, 0)) := by
    unfold five
    rw [Below.heap_alloc _ _ _ (by simp), Below.heap_alloc _ _ _ (by simp), Below.heap_alloc _ _ _ (by simp)]
    have := heap_alloc_new (w.alloc (.cells rc 25)) (.cells z37 37)
    simpa using this
  have a2 : (five w rc).heap[w.heap.size + 1 + 1]? = some (.cells z7 39 (0, 0)) := by
    unfold five
    rw [Below.heap_alloc _ _ _ (by simp), Below.heap_alloc _ _ _ (by simp)]
    have := heap_alloc_new ((w.alloc (.cells rc 25)).alloc (.cells z37 37)) (.cells z7 39)
    simpa using this
  have a3 : (five w rc).heap[w.heap.size + 1 + 2]? = some (.cells z7 39 (0, 0)) := by
    unfold five
    rw [Below.heap_alloc _ _ _ (by simp)]
    have := heap_alloc_new (((w.alloc (.cells rc 25)).alloc (.cells z37 37)).alloc (.cells z7 39)) (.cells z7 39)
    simpa using this
  have a4 : (five w rc).heap[w.heap.size + 1 + 3]? = some (.cells z7 41 (0, 0)) := by
    unfold five
    have := heap_alloc_new ((((w.alloc (.cells rc 25)).alloc (.cells z37 37)).alloc (.cells z7 39)).alloc (.cells z7 39)) (.cells z7 41)
    simpa using this
  have seven : ∀ k, k < 7 → z7[0 + k]? = some (.slice none 0 0) := fun k hk => by
    rcases k with _ | _ | _ | _ | _ | _ | _ | k <;> first | rfl | omega
  have seven1 : ∀ k, k < 7 → z37[1 + k]? = some (.slice none 0 0) := fun k hk => by
    rcases k with _ | _ | _ | _ | _ | _ | _ | k <;> first | rfl | omega
  refine ⟨hb, by omega, fun r hr => ?_, fun k hk => by omega, fun _ _ _ _ _ => rfl, a0⟩
  rcases r with _ | _ | _ | _ | r
  · exact ⟨z37, a1, seven1⟩
  · exact ⟨z7, a2, seven⟩
  · exact ⟨z7, a3, seven⟩
  · exact ⟨z7, a4, seven⟩
  · omega

end Go.Proofs.Ybulkafaa
