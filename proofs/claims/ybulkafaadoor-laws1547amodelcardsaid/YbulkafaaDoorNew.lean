/-
  newRankSet, walked.
-/
import Derived.Test.YbulkafaaDoorWorld
import Derived.Deep.RegionLaw
import Derived.Deep.OwnRows
namespace Go.Proofs.YbulkafaaDoor
open Go.RowKit

theorem info34 : (Ybad.prog.info? 34).map (fun i => (i.zero, i.size, i.bytes)) = some (some (.int .u64 0), 1, 8) := by kernel_rfl
theorem info33 : (Ybad.prog.info? 33).map (fun i => (i.zero, i.size, i.bytes)) = some (some (.slice none 0 0), 1, 24) := by kernel_rfl

/-- append to a slice of the call's own, as one step of a region that draws its order. -/
theorem step_append_own {P : Program} {ops : Array Oper} {o : Oper} {a : Act} {w : World} {K : Act → World → Prop} {Q : Exit → Act → World → Prop} {E : Prop} (hgd : o.guard = none) (s x : Operand) (t : TypeId)
    (ho : o.op = .call { callee := .builtin .append, args := #[s, x], argTypes := #[t, t] })
    (base : Nat) (e : TypeId) (i : TypeInfo) (z : Value) (size bytes : Nat) (ht : P.underlying t = some (.slice e)) (hi : P.info? e = some i) (hz : i.zero = some z)
    (hsize : i.size = size) (hby : i.bytes = bytes) (hzs : z.cells.size = size) (hsz : 0 < size)
    (v : Value) (n : Nat) (xs : List Value) (hs : a.eval s = v) (hown : w.ownsRow base e size v n xs)
    (ad : Addr) (m c : Nat) (news : List Value) (hx : a.eval x = .slice (some ad) m c) (hl : news.length = m * size) (hnews : ∀ j u, news[j]? = some u → w.cell? (ad.add j) = some u) (h1 : ∀ u ∈ news, u.oneCell' = true)
    (h63 : n + m ≤ maxLen) (hbytes : (n + m) * bytes ≤ 140737488355328) (hbase : base ≤ w.heap.size)
    (h : ∀ v' w', w'.ownsRow base e size v' (n + m) (xs ++ news) → w.grownBy w' v.ownBlock → K (a.put o.dst v') w') :
    if Region.wanted o (yielded ops a.tmps) = true then Oper.wp P o a w K Q else E := by
  have hw : Region.wanted o (yielded ops a.tmps) = true := by simp [Region.wanted, hgd]
  rw [if_pos hw]
  exact wp_append_own w s x t ho base e i z size bytes ht hi hz hsize hby hzs hsz v n xs hs hown ad m c news hx hl hnews h1 h63 hbytes hbase (fun v' w' h2 h3 _ => h v' w' h2 h3)

theorem wordOf_false (i : Nat) : wordOf (fun _ => false) i = 0 := by
  have : ∀ k, bitsN (fun _ => false) k = 0 := by
    intro k
    induction k with
    | zero => rfl
    | succ k ih => simp [bitsN, ih]
  exact this 64

theorem mem_false : ∀ l, mem (fun _ => false) l = fun _ => false
  | 0 => rfl
  | l + 1 => by funext i; simp [mem, mem_false l, wordOf_false]

theorem made_row (l n : Nat) : madeCells #[Value.int .u64 0] n = row (mem (fun _ => false) l) n := by
  apply Array.ext'
  rw [toList_madeCells_one, mem_false]
  simp [row, wordOf_false, List.map_const']

/-- The levels' slices, as cells. -/
def lvs (size : Nat) (g : Nat → Nat) (l : Nat) : List Value := (List.range l).map fun k => .slice (some ⟨g k, 0, none⟩) (len size k) (len size k)

/-- What the loop keeps: l levels have been laid. -/
structure NI (w wr : World) (size l : Nat) (v : Value) (g : Nat → Nat) : Prop where
  r : wr.heap[w.heap.size]? = some (.cells #[.int .i64 0, .slice none 0 0] 26 (0, 0))
  s : wr.heap[w.heap.size + 1]? = some (.cells #[.int .i64 size, v] 26 (0, 0))
  own : wr.ownsRow (w.heap.size + 2) 33 1 v l (lvs size g l)
  lev : ∀ k, k < l → wr.heap[g k]? = some (.cells (row (mem (fun _ => false) k) (len size k)) 34 (0, 0))
  ge : ∀ k, k < l → w.heap.size + 2 ≤ g k
  inj : ∀ k k', k < l → k' < l → g k = g k' → k = k'
  below : Below w.heap.size w wr

theorem lt_of_heap {w : World} {b : Nat} {o : Obj} (h : w.heap[b]? = some o) : b < w.heap.size := (Array.getElem?_eq_some_iff.1 h).1

theorem ni_start (w : World) (size : Nat) : NI w ((w.alloc (.cells #[.int .i64 0, .slice none 0 0] 26)).alloc (.cells #[.int .i64 size, .slice none 0 0] 26)) size 0 (.slice none 0 0) (fun _ => 0) := by
  refine ⟨?_, ?_, World.ownsRow_nil _ _ _ _, fun k h => by omega, fun k h => by omega, fun k _ h => by omega, ((Below.refl _ _).alloc (Nat.le_refl _) _).alloc (by simp) _⟩
  · rw [Below.heap_alloc _ _ _ (by simp)]
    exact heap_alloc_new w _
  · have := heap_alloc_new (w.alloc (.cells #[.int .i64 0, .slice none 0 0] 26)) (.cells #[.int .i64 size, .slice none 0 0] 26)
    simpa using this

/-- The world at the append: the new level's words, and the one-element slice that is appended. -/
def atAppend (wr : World) (L : Nat) : World := ((wr.alloc (.cells (madeCells #[Value.int .u64 0] L) 34)).alloc (.cells #[.slice (some ⟨wr.heap.size, 0, none⟩) L L] 33)).drew

theorem atAppend_heap (wr : World) (L : Nat) : (atAppend wr L).heap.size = wr.heap.size + 2 ∧ (∀ k, k < wr.heap.size → (atAppend wr L).heap[k]? = wr.heap[k]?) ∧ (atAppend wr L).heap[wr.heap.size]? = some (.cells (madeCells #[Value.int .u64 0] L) 34 (0, 0)) ∧
    (atAppend wr L).cell? ⟨wr.heap.size + 1, 0, none⟩ = some (.slice (some ⟨wr.heap.size, 0, none⟩) L L) := by
  refine ⟨by simp [atAppend, World.drew], fun k hk => ?_, ?_, ?_⟩
  · show ((wr.alloc _).alloc _).heap[k]? = _
    rw [Below.heap_alloc _ _ _ (by simp; omega), Below.heap_alloc _ _ _ hk]
  · show ((wr.alloc _).alloc _).heap[wr.heap.size]? = _
    rw [Below.heap_alloc _ _ _ (by simp)]
    exact heap_alloc_new wr _
  · show ((wr.alloc _).alloc _).cell? _ = _
    simp

section
variable {w wr w1 : World} {size l L : Nat} {v v' : Value} {g : Nat → Nat}

theorem NI.own2 (h : NI w wr size l v g) (L : Nat) : (atAppend wr L).ownsRow (w.heap.size + 2) 33 1 v l (lvs size g l) :=
  ((h.own.alloc _).alloc _).drew

theorem keep2 (hg : (atAppend wr L).grownBy w1 v.ownBlock) {k : Nat} (hk : k < wr.heap.size) (hn : v.ownBlock ≠ some k) : w1.heap[k]? = wr.heap[k]? := by
  obtain ⟨a1, a2, a3, a4⟩ := atAppend_heap wr L
  rw [hg.block k (by omega) (fun e => hn e.symm), a2 k hk]

theorem NI.notOwn (h : NI w wr size l v g) {k : Nat} {cs : Array Value} {t : Nat} (hk : wr.heap[k]? = some (.cells cs t (0, 0))) (ht : t ≠ 33) : v.ownBlock ≠ some k := by
  intro e
  rcases h.own.2 with ⟨rfl, _⟩ | ⟨gg, cap, cur, rfl, _, hh, _⟩
  · cases e
  · simp [Value.ownBlock] at e
    subst e
    rw [hk] at hh
    simp at hh
    exact ht hh.2

theorem NI.scell (h : NI w wr size l v g) (hg : (atAppend wr L).grownBy w1 v.ownBlock) : w1.cell? ⟨w.heap.size + 1, 1, none⟩ = some v ∧ w1.frozen? ⟨w.heap.size + 1, 1, none⟩ = false := by
  have hb := keep2 hg (lt_of_heap h.s) (h.notOwn h.s (by decide))
  rw [h.s] at hb
  exact ⟨by rw [cell_of_row w1 _ 1 _ _ _ hb]; rfl, by simp [World.frozen?, hb]⟩

theorem lvs_step (size : Nat) (g : Nat → Nat) (l N : Nat) : lvs size g l ++ [.slice (some ⟨N, 0, none⟩) (len size l) (len size l)] = lvs size (fun k => if k = l then N else g k) (l + 1) := by
  unfold lvs
  rw [List.range_succ, List.map_append]
  congr 1
  · refine List.map_congr_left fun k hk => ?_
    have : k ≠ l := by have := List.mem_range.1 hk; omega
    simp [this]
  · simp

theorem NI.step (h : NI w wr size l v g) (hL : L = len size l) (hown : w1.ownsRow (w.heap.size + 2) 33 1 v' (l + 1) (lvs size g l ++ [.slice (some ⟨wr.heap.size, 0, none⟩) L L])) (hg : (atAppend wr L).grownBy w1 v.ownBlock) :
    NI w (w1.setCell ⟨w.heap.size + 1, 1, none⟩ v') size (l + 1) v' (fun k => if k = l then wr.heap.size else g k) := by
  subst hL
  obtain ⟨a1, a2, a3, a4⟩ := atAppend_heap wr (len size l)
  have hsl := lt_of_heap h.s
  have hs1 := keep2 hg hsl (h.notOwn h.s (by decide))
  have hr1 := keep2 hg (lt_of_heap h.r) (h.notOwn h.r (by decide))
  have hnew : w1.heap[wr.heap.size]? = some (.cells (madeCells #[Value.int .u64 0] (len size l)) 34 (0, 0)) := by
    rw [hg.block wr.heap.size (by omega) (fun e => by have := h.own.lt _ e.symm; omega)]
    exact a3
  rw [lvs_step] at hown
  have old : ∀ k, k < l → w1.heap[g k]? = some (.cells (row (mem (fun _ => false) k) (len size k)) 34 (0, 0)) := fun k hk => by
    rw [keep2 hg (lt_of_heap (h.lev k hk)) (h.notOwn (h.lev k hk) (by decide))]
    exact h.lev k hk
  refine ⟨?_, ?_, ownsRow_setCell_below hown (by simp) _, fun k hk => ?_, fun k hk => ?_, fun k k' hk hk' e => ?_, ?_⟩
  · rw [Below.heap_setCell _ _ _ _ (by simp), hr1]; exact h.r
  · simp only [World.setCell, Array.getElem?_modify, if_true, hs1, h.s, Option.map_some]
    simp
  · by_cases e : k = l
    · subst e
      rw [if_pos rfl, Below.heap_setCell _ _ _ _ (by show wr.heap.size ≠ w.heap.size + 1; omega), hnew, made_row k]
    · rw [if_neg e, Below.heap_setCell _ _ _ _ (by have := h.ge k (by omega); show g k ≠ w.heap.size + 1; omega)]
      exact old k (by omega)
  · by_cases e : k = l
    · subst e; simp; omega
    · simp [e]; exact h.ge k (by omega)
  · have hlt : ∀ j, j < l → g j < wr.heap.size := fun j hj => lt_of_heap (h.lev j hj)
    by_cases e1 : k = l
    · by_cases e2 : k' = l
      · omega
      · have := hlt k' (by omega); simp [e1, e2] at e; omega
    · by_cases e2 : k' = l
      · have := hlt k (by omega); simp [e1, e2] at e; omega
      · simp [e1, e2] at e; exact h.inj k k' (by omega) (by omega) e
  · have hb := h.below
    have hsz := hb.size
    refine Below.setCell ?_ (by simp) _
    have h1 : Below w.heap.size w (atAppend wr (len size l)) := ((hb.alloc hsz _).alloc (by simp; omega) _).drew
    exact h1.grown hg (by omega) (fun k hk => by have := (h.own.lt k hk).1; omega)
end

theorem own_form {w : World} {B e n : Nat} {v : Value} {xs : List Value} (h : w.ownsRow B e 1 v (n + 1) xs) : ∃ g c, v = .slice (some ⟨g, 0, none⟩) (n + 1) c := by
  rcases h.2 with ⟨_, h0⟩ | ⟨g, cap, cur, hv, _⟩
  · omega
  · exact ⟨g, cap, hv⟩

/-- What the call leaves: the levels alone. -/
structure NJ (w wr : World) (size l : Nat) (v : Value) (g : Nat → Nat) : Prop where
  own : wr.ownsRow (w.heap.size + 2) 33 1 v l (lvs size g l)
  lev : ∀ k, k < l → wr.heap[g k]? = some (.cells (row (mem (fun _ => false) k) (len size k)) 34 (0, 0))
  ge : ∀ k, k < l → w.heap.size + 2 ≤ g k
  inj : ∀ k k', k < l → k' < l → g k = g k' → k = k'
  below : Below w.heap.size w wr

theorem NI.nj {w wr : World} {size l : Nat} {v : Value} {g : Nat → Nat} (h : NI w wr size l v g) : NJ w wr size l v g := ⟨h.own, h.lev, h.ge, h.inj, h.below⟩

theorem NJ.setCell {w wr : World} {size l : Nat} {v : Value} {g : Nat → Nat} (h : NJ w wr size l v g) (o : Nat) (u : Value) : NJ w (wr.setCell ⟨w.heap.size, o, none⟩ u) size l v g :=
  ⟨ownsRow_setCell_below h.own (by simp) _, fun k hk => by rw [Below.heap_setCell _ _ _ _ (by have := h.ge k hk; show g k ≠ w.heap.size; omega)]; exact h.lev k hk, h.ge, h.inj, h.below.setCell (by simp) _⟩

theorem NI.facts {w wr : World} {size l : Nat} {v : Value} {g : Nat → Nat} (h : NI w wr size l v g) :
    wr.cell? ⟨w.heap.size + 1, 0, none⟩ = some (.int .i64 size) ∧ wr.cell? ⟨w.heap.size + 1, 1, none⟩ = some v ∧ wr.cell? ⟨w.heap.size, 0, none⟩ = some (.int .i64 0) ∧ wr.cell? ⟨w.heap.size, 1, none⟩ = some (.slice none 0 0) ∧
    (∀ o, wr.frozen? ⟨w.heap.size, o, none⟩ = false) :=
  ⟨by rw [cell_of_row wr _ 0 _ _ _ h.s]; rfl, by rw [cell_of_row wr _ 1 _ _ _ h.s]; rfl, by rw [cell_of_row wr _ 0 _ _ _ h.r]; rfl, by rw [cell_of_row wr _ 1 _ _ _ h.r]; rfl, fun o => by simp [World.frozen?, h.r]⟩

theorem len_bound (size : Nat) (h1 : 1 ≤ size) (h2 : size ≤ 100000) : len size 0 ≤ 1563 ∧ len size 1 ≤ 25 ∧ len size 2 ≤ 1 ∧ 1 ≤ len size 0 := by
  have e0 : len size 0 = (size + 63) / 64 := rfl
  have e1 : len size 1 = (len size 0 + 63) / 64 := rfl
  have e2 : len size 2 = (len size 1 + 63) / 64 := rfl
  omega

theorem lt_two {size l L : Nat} (h : len size 0 ≤ 1563 ∧ len size 1 ≤ 25 ∧ len size 2 ≤ 1) (hL : L = len size l) (hl : l ≤ 2) (h1 : ¬ L ≤ 1) : l + 1 ≤ 2 := by
  rcases Nat.lt_or_ge l 2 with h2 | h2
  · omega
  · obtain rfl : l = 2 := by omega
    omega

set_option maxHeartbeats 1000000 in
theorem new_any (size : Nat) (h1 : 1 ≤ size) (h2 : size ≤ 100000) (w : World) :
    Calls Ybad.prog 4 #[.int .i64 size] w fun e w' => ∃ lb K cap g, e = .returned (.agg #[.int .i64 size, .slice (some ⟨lb, 0, none⟩) K cap]) ∧ 1 ≤ K ∧ K ≤ 10 ∧ len size (K - 1) ≤ 1 ∧ NJ w w' size K (.slice (some ⟨lb, 0, none⟩) K cap) g := by
  obtain ⟨b0, b1, b2, b3⟩ := len_bound size h1 h2
  obtain ⟨i0, hi, hz0, hz1, hz2⟩ := info_parts info33
  have HB : Hid (len size 0 ≤ 1563 ∧ len size 1 ≤ 25 ∧ len size 2 ≤ 1) := ⟨b0, b1, b2⟩
  clear b0 b1 b2 b3
  go_enter Ybad.func4, Ybad.ntmps4
  go_wp2
  go_loopw [4] (fun q wr => ∃ (l : Nat) (v : Value) (g : Nat → Nat), l ≤ 2 ∧ q = .int .i64 (wid size l : Nat) ∧ Hid (l = 0 ∨ 2 ≤ wid size l) ∧ NI w wr size l v g) (fun q _ => (intOf q).toNat)
  case atStart => exact ⟨0, _, _, Nat.zero_le _, rfl, .inl rfl, ni_start w size⟩
  case round =>
    obtain ⟨l, v, g, hl, rfl, hw2, hNI⟩ := hrel
    have hlw := len_wid size l
    have hwl : wid size l ≤ 100000 := Nat.le_trans (wid_le size l) h2
    obtain ⟨L, HL⟩ : ∃ L, Hid (L = len size l) := ⟨_, rfl⟩
    obtain ⟨W, HW⟩ : ∃ W, Hid (W = wid size l) := ⟨_, rfl⟩
    rw [← HL.out, ← HW.out] at hlw
    rw [← HW.out] at hwl ⊢
    have eL : ((W : Int) + 63) / 64 = (L : Int) := by omega
    have hLb : L ≤ 2000 := by omega
    clear hlw
    have hmk := run_make_row' (P := Ybad.prog) 33 34 (.int .u64 0) 8 Ybad.underlying33 info34 rfl .i64 .i64 L (by omega) (by omega)
    have cs0 : wr.cell? ⟨w.heap.size + 1, 1, none⟩ = some v := by rw [cell_of_row wr _ 1 _ _ _ hNI.s]; rfl
    have hown2 := hNI.own2 L
    obtain ⟨a1, a2, a3, a4⟩ := atAppend_heap wr L
    have hsz := lt_of_heap hNI.s
    go_wp2
    have hnews : ∀ j u, ([.slice (some ⟨wr.heap.size, 0, none⟩) L L] : List Value)[j]? = some u → (atAppend wr L).cell? ((⟨wr.heap.size + 1, 0, none⟩ : Addr).add j) = some u := by
      intro j u hj
      match j, hj with
      | 0, hj => simp at hj; subst hj; simpa [Addr.add] using a4
    have hone : ∀ u ∈ ([.slice (some ⟨wr.heap.size, 0, none⟩) L L] : List Value), u.oneCell' = true := by intro u hu; simp at hu; subst hu; rfl
    have hm1 : l + 1 ≤ maxLen := by unfold maxLen; omega
    have hm2 : (l + 1) * 24 ≤ 140737488355328 := by omega
    have hm3 : w.heap.size + 2 ≤ (atAppend wr L).heap.size := by omega
    have cs1 : ∀ o1, (wr.alloc o1).cell? ⟨w.heap.size + 1, 1, none⟩ = some v := fun o1 => by rw [World.cell?_alloc_past _ _ _ hsz]; exact cs0
    have cs2 : ∀ o1 o2, ((wr.alloc o1).alloc o2).cell? ⟨w.heap.size + 1, 1, none⟩ = some v := fun o1 o2 => by rw [World.cell?_alloc_past _ _ _ (by simp; omega)]; exact cs1 o1
    clear a1 a2 a3 a4
    go_region_law (refine step_append_own rfl (.tmp 12) (.tmp 15) 24 rfl (w.heap.size + 2) 33 i0 (.slice none 0 0) 1 24 Ybad.underlying24 hi hz0 hz1 hz2 rfl (by decide) v l _ (by simp [Act.eval]) hown2 ⟨wr.heap.size + 1, 0, none⟩ 1 1 [.slice (some ⟨wr.heap.size, 0, none⟩) L L] (by simp [Act.eval]) rfl hnews hone hm1 hm2 hm3 ?_; intro v' w1 hown1 hg1; obtain ⟨c1, f1⟩ := hNI.scell hg1; obtain ⟨gv, cv, hv⟩ := own_form hown1; rw [hv] at hown1 ⊢)
    all_goals
      have hstep := hNI.step HL.out hown1 hg1
      clear hown1 hg1 hNI hmk cs0 hown2 hnews hone hm1 hm2 hm3 cs1 cs2 c1 f1 hsz
      generalize w1.setCell _ _ = W1 at hstep ⊢
      obtain ⟨d0, d1, d2, d3, d4⟩ := hstep.facts
      by_cases hL1 : L ≤ 1
      · go_wp2
        refine bodyPost_ret (v := .agg #[.int .i64 size, .slice (some ⟨gv, 0, none⟩) (l + 1) cv]) (by simp [results, Ybad.results4, go_sem, d2, d3]) rfl ⟨gv, l + 1, cv, _, rfl, by omega, by omega, ?_, (hstep.nj.setCell 0 _).setCell 1 _⟩
        rw [Nat.add_sub_cancel, ← HL.out]
        exact hL1
      · have hL2 : ¬ (L : Int) ≤ 1 := by omega
        go_wp2
        go_roundw
        case rel => exact ⟨l + 1, _, _, lt_two HB.out HL.out hl hL1, by rw [HL.out]; rfl, .inr (by show 2 ≤ len size l; rw [← HL.out]; omega), hstep⟩
        case measure => simp [intOf]; omega

end Go.Proofs.YbulkafaaDoor
