/-
  How a rank set lies in memory, and what a store into one of its words makes of it.
-/
import Derived.Test.YbulkafaaDoorRows
import Derived.Test.YbulkafaaDoorPlain
import Derived.WalkKit
import Derived.WalkSpells
import Derived.WalkLawsBesides
namespace Go.Proofs.YbulkafaaDoor
open Go.RowKit

/-- The cells of n words of the set F. -/
def row (F : Nat → Bool) (n : Nat) : Array Value := ((List.range n).map fun i => Value.int .u64 (wordOf F i : Nat)).toArray

theorem row_size (F : Nat → Bool) (n : Nat) : (row F n).size = n := by simp [row]
theorem row_at (F : Nat → Bool) (n i : Nat) (h : i < n) : (row F n)[i]? = some (.int .u64 (wordOf F i : Nat)) := by simp [row, h]

theorem row_set (F F' : Nat → Bool) (n i : Nat) (x : Nat) (hx : x = wordOf F' i) (ho : ∀ j, j ≠ i → wordOf F' j = wordOf F j) : (row F n).setIfInBounds i (.int .u64 (x : Nat)) = row F' n := by
  apply Array.ext_getElem?
  intro j
  rw [Array.getElem?_setIfInBounds]
  by_cases hj : j < n
  · rw [row_at F' n j hj, row_at F n j hj]
    by_cases e : i = j
    · subst e; simp [row_size, hj, hx]
    · simp [e, ho j (fun h => e h.symm)]
  · have h1 : (row F n)[j]? = none := Array.getElem?_eq_none (by rw [row_size]; omega)
    have h2 : (row F' n)[j]? = none := Array.getElem?_eq_none (by rw [row_size]; omega)
    rw [h1, h2]
    split
    · rename_i e; subst e; simp [row_size, hj]
    · rfl

/-- Outside the blocks of G the world w' is as w was; no block has come or gone. -/
structure Only (G : Nat → Prop) (w w' : World) : Prop where
  os : w'.os = w.os
  tape : w'.tape = w.tape
  output : w'.output = w.output
  size : w'.heap.size = w.heap.size
  block : ∀ k, ¬ G k → w'.heap[k]? = w.heap[k]?

theorem Only.refl (G : Nat → Prop) (w : World) : Only G w w := ⟨rfl, rfl, rfl, rfl, fun _ _ => rfl⟩
theorem Only.trans {G : Nat → Prop} {a b c : World} (h : Only G a b) (k : Only G b c) : Only G a c :=
  ⟨k.os.trans h.os, k.tape.trans h.tape, k.output.trans h.output, k.size.trans h.size, fun i hi => (k.block i hi).trans (h.block i hi)⟩
theorem Only.drew {G : Nat → Prop} {a w : World} (h : Only G a w) : Only G a w.drew := ⟨h.os, h.tape, h.output, h.size, h.block⟩
theorem Only.drewN {G : Nat → Prop} {a w : World} (h : Only G a w) (n : Nat) : Only G a (w.drewN n) := ⟨h.os, h.tape, h.output, h.size, h.block⟩
theorem Only.setCell {G : Nat → Prop} {a w : World} (h : Only G a w) {b o : Nat} (hb : G b) (v : Value) : Only G a (w.setCell ⟨b, o, none⟩ v) :=
  h.trans ⟨rfl, rfl, rfl, by simp [World.setCell], fun k hk => Below.heap_setCell _ _ _ _ (fun e => hk (e ▸ hb))⟩

/-- A rank set of K levels, of the levels' sets F, in memory: the struct in block sb, the levels' slices in block lb, level l's words in block g l. -/
structure RS (w : World) (sb lb : Nat) (g : Nat → Nat) (K size : Nat) (F : Nat → Nat → Bool) : Prop where
  s : ∃ cap, w.heap[sb]? = some (.cells #[.int .i64 size, .slice (some ⟨lb, 0, none⟩) K cap] 26 (0, 0))
  l : ∃ cur : Array Value, w.heap[lb]? = some (.cells cur 33 (0, 0)) ∧ ∀ l, l < K → cur[l]? = some (.slice (some ⟨g l, 0, none⟩) (len size l) (len size l))
  lev : ∀ l, l < K → w.heap[g l]? = some (.cells (row (F l) (len size l)) 34 (0, 0))
  inj : ∀ l l', l < K → l' < K → g l = g l' → l = l'

section
variable {w w' : World} {sb lb K size : Nat} {g : Nat → Nat} {F F' : Nat → Nat → Bool}

theorem RS.congr (h : RS w sb lb g K size F) (e : ∀ l, l < K → F l = F' l) : RS w sb lb g K size F' :=
  ⟨h.s, h.l, fun l hl => by rw [← e l hl]; exact h.lev l hl, h.inj⟩

/-- Words may be written otherwise where they come to the same. -/
theorem RS.only {G : Nat → Prop} (h : RS w sb lb g K size F) (ho : Only G w w') (h1 : ¬ G sb) (h2 : ¬ G lb) (h3 : ∀ l, l < K → ¬ G (g l)) : RS w' sb lb g K size F :=
  ⟨by rw [ho.block sb h1]; exact h.s, by rw [ho.block lb h2]; exact h.l, fun l hl => by rw [ho.block (g l) (h3 l hl)]; exact h.lev l hl, h.inj⟩

theorem RS.drew (h : RS w sb lb g K size F) : RS w.drew sb lb g K size F := ⟨h.s, h.l, h.lev, h.inj⟩
theorem RS.drewN (h : RS w sb lb g K size F) (n : Nat) : RS (w.drewN n) sb lb g K size F := ⟨h.s, h.l, h.lev, h.inj⟩

theorem RS.cells (h : RS w sb lb g K size F) : ∃ cap, w.cell? ⟨sb, 0, none⟩ = some (.int .i64 size) ∧ w.cell? ⟨sb, 1, none⟩ = some (.slice (some ⟨lb, 0, none⟩) K cap) := by
  obtain ⟨cap, hs⟩ := h.s
  exact ⟨cap, by rw [cell_of_row w sb 0 _ _ _ hs]; rfl, by rw [cell_of_row w sb 1 _ _ _ hs]; rfl⟩
theorem RS.level (h : RS w sb lb g K size F) {l : Nat} (hl : l < K) : w.cell? ⟨lb, l, none⟩ = some (.slice (some ⟨g l, 0, none⟩) (len size l) (len size l)) := by
  obtain ⟨cur, hc, hcl⟩ := h.l
  rw [cell_of_row w lb l _ _ _ hc]
  exact hcl l hl
theorem RS.word (h : RS w sb lb g K size F) {l i : Nat} (hl : l < K) (hi : i < len size l) : w.cell? ⟨g l, i, none⟩ = some (.int .u64 (wordOf (F l) i : Nat)) := by
  rw [cell_of_row w (g l) i _ _ _ (h.lev l hl), row_at _ _ _ hi]
theorem RS.free (h : RS w sb lb g K size F) {l i : Nat} (hl : l < K) : w.frozen? ⟨g l, i, none⟩ = false := by
  simp [World.frozen?, h.lev l hl]
theorem RS.ne (h : RS w sb lb g K size F) {l : Nat} (hl : l < K) : g l ≠ sb ∧ g l ≠ lb := by
  obtain ⟨cap, hs⟩ := h.s
  obtain ⟨cur, hc, _⟩ := h.l
  have := h.lev l hl
  constructor
  · intro e; rw [e, hs] at this; simp at this
  · intro e; rw [e, hc] at this; simp at this

/-- A store of a word. -/
theorem RS.store (h : RS w sb lb g K size F) {l i x : Nat} (hl : l < K) (N : Nat → Bool) (hx : x = wordOf N i) (ho : ∀ j, j ≠ i → wordOf N j = wordOf (F l) j) :
    RS (w.setCell ⟨g l, i, none⟩ (.int .u64 (x : Nat))) sb lb g K size (fun k => if k = l then N else F k) := by
  obtain ⟨n1, n2⟩ := h.ne hl
  refine ⟨?_, ?_, fun k hk => ?_, h.inj⟩
  · rw [Below.heap_setCell _ _ _ _ (by exact fun e => n1 e.symm)]; exact h.s
  · rw [Below.heap_setCell _ _ _ _ (by exact fun e => n2 e.symm)]; exact h.l
  · by_cases e : k = l
    · subst e
      have hb := h.lev k hk
      simp only [World.setCell, Array.getElem?_modify, if_true, hb, Option.map_some]
      simp [row_set (F k) N (len size k) i x hx ho]
    · rw [Below.heap_setCell _ _ _ _ (by exact fun e' => e (h.inj k l hk hl e'))]
      simp only [if_neg e]
      exact h.lev k hk
end

end Go.Proofs.YbulkafaaDoor
