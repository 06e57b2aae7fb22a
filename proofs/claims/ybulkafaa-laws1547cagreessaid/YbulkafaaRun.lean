/-
  overlapRun and overlapping, walked.
-/
import Derived.Test.YbulkafaaClos
import Derived.Test.YbulkafaaShelf
namespace Go.Proofs.Ybulkafaa
open Go.RowKit Go.Sort

/-! ### the plain law of the search -/

theorem count_spec (p : Nat → Bool) : ∀ n, (∀ a b, a ≤ b → b < n → p a = true → p b = true) → ∀ i, i < n → (p i = true ↔ (List.range n).countP (fun i => !p i) ≤ i)
  | 0, _, i, h => by omega
  | n + 1, hm, i, hi => by
    have ih := count_spec p n (fun a b h1 h2 => hm a b h1 (by omega))
    rw [List.range_succ, List.countP_append]
    have hle : (List.range n).countP (fun i => !p i) ≤ n := by have := List.countP_le_length (p := fun i => !p i) (l := List.range n); simpa using this
    cases hp : p n with
    | true =>
      simp only [List.countP_cons, List.countP_nil, hp]
      by_cases e : i = n
      · subst e; simp [hp]; exact hle
      · simpa using ih i (by omega)
    | false =>
      have all : ∀ j, j ≤ n → p j = false := fun j hj => by
        cases h : p j with
        | false => rfl
        | true => have := hm j n hj (by omega) h; rw [hp] at this; cases this
      have hc : (List.range n).countP (fun i => !p i) = n := by
        have h1 : (List.range n).countP (fun i => !p i) = (List.range n).length := List.countP_eq_length.2 (fun j hj => by rw [all j (by have := List.mem_range.1 hj; omega)]; rfl)
        simpa using h1
      simp only [List.countP_cons, List.countP_nil, hp, hc]
      simp [all i (by omega)]
      omega

/-- Tables in their order, none over another. -/
def Ordered (ts : List Tri) : Prop := ∀ (a b : Nat) (ta tb : Tri), a < b → ts[a]? = some ta → ts[b]? = some tb → ta.s ≤ tb.s ∧ (ta.e < tb.e ∨ (ta.e = tb.e ∧ ta.x = true ∧ tb.x = false))

/-- Whether a table holds a key of the range. -/
def over (rs re : Nat) (rx : Bool) (t : Tri) : Bool := !bef t.e t.x rs && !bef re rx t.s
def hit (ts : List Tri) (rs re : Nat) (rx : Bool) : Bool := ts.any (over rs re rx)

def p1 (ts : List Tri) (rs : Nat) (j : Nat) : Bool := match ts[j]? with | some t => !bef t.e t.x rs | none => false
def p2 (ts : List Tri) (re : Nat) (rx : Bool) (lo j : Nat) : Bool := match ts[lo + j]? with | some t => bef re rx t.s | none => false

theorem p1_mono {ts : List Tri} (h : Ordered ts) (rs : Nat) : ∀ a b, a ≤ b → b < ts.length → p1 ts rs a = true → p1 ts rs b = true := by
  intro a b hab hb ha
  by_cases e : a = b
  · subst e; exact ha
  · have h1 := List.getElem?_eq_getElem (l := ts) (i := a) (by omega)
    have h2 := List.getElem?_eq_getElem (l := ts) (i := b) hb
    have := h a b _ _ (by omega) h1 h2
    unfold p1 bef at *
    rw [h1] at ha
    rw [h2]
    simp at ha ⊢
    rcases this with ⟨_, h3 | ⟨h3, h4, h5⟩⟩
    · exact ⟨by omega, .inl (by omega)⟩
    · exact ⟨by omega, .inr h5⟩

theorem p2_mono {ts : List Tri} (h : Ordered ts) (re : Nat) (rx : Bool) (lo : Nat) : ∀ a b, a ≤ b → b < ts.length - lo → p2 ts re rx lo a = true → p2 ts re rx lo b = true := by
  intro a b hab hb ha
  by_cases e : a = b
  · subst e; exact ha
  · have h1 := List.getElem?_eq_getElem (l := ts) (i := lo + a) (by omega)
    have h2 := List.getElem?_eq_getElem (l := ts) (i := lo + b) (by omega)
    have := h _ _ _ _ (show lo + a < lo + b by omega) h1 h2
    unfold p2 bef at *
    rw [h1] at ha
    rw [h2]
    simp at ha ⊢
    rcases ha with ha | ⟨ha, hx⟩
    · left; omega
    · rw [hx]; simp; omega

def loOf (ts : List Tri) (rs : Nat) : Nat := (List.range ts.length).countP (fun i => !p1 ts rs i)
def nOf (ts : List Tri) (rs re : Nat) (rx : Bool) : Nat := (List.range (ts.length - loOf ts rs)).countP (fun i => !p2 ts re rx (loOf ts rs) i)

theorem loOf_le (ts : List Tri) (rs : Nat) : loOf ts rs ≤ ts.length := by
  have := List.countP_le_length (p := fun i => !p1 ts rs i) (l := List.range ts.length)
  simpa [loOf] using this
theorem nOf_le (ts : List Tri) (rs re : Nat) (rx : Bool) : nOf ts rs re rx ≤ ts.length - loOf ts rs := by
  have := List.countP_le_length (p := fun i => !p2 ts re rx (loOf ts rs) i) (l := List.range (ts.length - loOf ts rs))
  simpa [nOf] using this

/-- THE LAW: the run is empty just where no table holds a key of the range. -/
theorem run_law {ts : List Tri} (h : Ordered ts) (rs re : Nat) (rx : Bool) : decide (0 < nOf ts rs re rx) = hit ts rs re rx := by
  rw [Bool.eq_iff_iff, decide_eq_true_eq]
  unfold hit over
  rw [List.any_eq_true]
  constructor
  · intro hn
    obtain ⟨j, hj, hp⟩ := List.countP_pos_iff.1 hn
    have hj' : j < ts.length - loOf ts rs := List.mem_range.1 hj
    have h2 := List.getElem?_eq_getElem (l := ts) (i := loOf ts rs + j) (by omega)
    have h1 := (count_spec (p1 ts rs) ts.length (p1_mono h rs) (loOf ts rs + j) (by omega)).2 (Nat.le_add_right _ _)
    refine ⟨_, List.getElem_mem (l := ts) (n := loOf ts rs + j) (by omega), ?_⟩
    unfold p1 at h1
    unfold p2 at hp
    rw [h2] at h1 hp
    simp at h1 hp ⊢
    exact ⟨h1, hp⟩
  · rintro ⟨t, ht, hp⟩
    obtain ⟨i, hi, rfl⟩ := List.getElem_of_mem ht
    have h2 := List.getElem?_eq_getElem (l := ts) (i := i) hi
    simp at hp
    have hlo : loOf ts rs ≤ i := (count_spec (p1 ts rs) ts.length (p1_mono h rs) i hi).1 (by unfold p1; rw [h2]; simp [hp.1])
    refine List.countP_pos_iff.2 ⟨i - loOf ts rs, List.mem_range.2 (by omega), ?_⟩
    unfold p2
    rw [show loOf ts rs + (i - loOf ts rs) = i by omega, h2]
    simp [hp.2]

/-! ### sort.Search over the closures -/

/-- A world that has drawn, and new blocks: from what stays and the draws. -/
theorem grow_of_below {w w' : World} (hb : Below w.heap.size w w') (hd : w.drawn ≤ w'.drawn) : ∃ q os, w' = grow (w.drewN q) os := by
  refine ⟨w'.drawn - w.drawn, w'.heap.extract w.heap.size w'.heap.size, ?_⟩
  have h1 : w.heap ++ w'.heap.extract w.heap.size w'.heap.size = w'.heap := by
    apply Array.ext_getElem?
    intro i
    have hs := hb.size
    rw [Array.getElem?_append]
    split
    · rename_i hi; exact (hb.block i hi).symm
    · rename_i hi
      rw [Array.getElem?_extract]
      split
      · rename_i h2; congr 1; omega
      · rename_i h2; rw [Array.getElem?_eq_none (by omega)]
  obtain ⟨h, t, d, o, u⟩ := w'
  have e1 := hb.os
  have e2 := hb.tape
  have e3 := hb.output
  simp only at e1 e2 e3 h1 hd
  subst e1 e2 e3
  unfold grow World.drewN
  simp only
  rw [h1, show w.drawn + (d - w.drawn) = d by omega]

/-- The closure's arguments. -/
def cap1 (bT bC bR : Nat) : Array Value := #[.pointer (some ⟨bT, 0, none⟩), .pointer (some ⟨bC, 0, none⟩), .pointer (some ⟨bR, 0, none⟩)]
def cap2 (bT bC bR bL : Nat) : Array Value := #[.pointer (some ⟨bR, 0, none⟩), .pointer (some ⟨bC, 0, none⟩), .pointer (some ⟨bT, 0, none⟩), .pointer (some ⟨bL, 0, none⟩)]

theorem search1 {w : World} {bT bC bR cb : Nat} {tv kr kf : Value} {ts : List Tri} {rs re : Nat} {rx : Bool} (h : Env w bT bC bR cb tv kr kf ts rs re rx) (hl : ts.length ≤ 1024) (ho : Ordered ts) :
    Calls Yba.prog 10 #[.int .i64 (ts.length : Nat), .func (.func 11) #[] (cap1 bT bC bR)] w fun e w' => e = .returned (.int .i64 (loOf ts rs : Nat)) ∧ ∃ q os, w' = grow (w.drewN q) os := by
  refine Any.sort_Search Yba.search 11 (cap1 bT bC bR) ts.length (p1 ts rs) w (enters_of Yba.func11 (by kernel_rfl) rfl) (by omega) ?_ (p1_mono ho rs)
  intro m os i hi
  have ht := List.getElem?_eq_getElem hi
  have := clos1 (h.below (below_grow w m os)) i _ ht
  have e : p1 ts rs i = !bef ts[i].e ts[i].x rs := by unfold p1; rw [ht]
  rw [e]
  exact this

theorem search2 {w : World} {bT bC bR bL cb lo : Nat} {tv kr kf : Value} {ts : List Tri} {rs re : Nat} {rx : Bool} (h : Env w bT bC bR cb tv kr kf ts rs re rx) (hlo : w.cell? ⟨bL, 0, none⟩ = some (.int .i64 lo)) (hl : ts.length ≤ 1024) (hle : lo ≤ ts.length) (ho : Ordered ts) :
    Calls Yba.prog 10 #[.int .i64 ((ts.length - lo : Nat) : Int), .func (.func 13) #[] (cap2 bT bC bR bL)] w fun e w' => e = .returned (.int .i64 ((List.range (ts.length - lo)).countP (fun i => !p2 ts re rx lo i) : Nat)) ∧ ∃ q os, w' = grow (w.drewN q) os := by
  refine Any.sort_Search Yba.search 13 (cap2 bT bC bR bL) (ts.length - lo) (p2 ts re rx lo) w (enters_of Yba.func13 (by kernel_rfl) rfl) (by omega) ?_ (p2_mono ho re rx lo)
  intro m os i hi
  have ht := List.getElem?_eq_getElem (l := ts) (i := lo + i) (by omega)
  have := clos2 (h.below (below_grow w m os)) (cell_on (below_grow w m os) hlo) hl i _ ht
  have e : p2 ts re rx lo i = bef re rx ts[lo + i].s := by unfold p2; rw [ht]
  rw [e]
  exact this

/-- The world behind the three parameters' boxes. -/
def boxed (w : World) (cb : Nat) (tv kr kf : Value) (rx : Bool) : World :=
  ((w.alloc (.cells #[.pointer (some ⟨cb, 0, none⟩)] 51)).alloc (.cells #[tv] 29)).alloc (.cells #[kr, kf, .bool rx] 48)

theorem env_boxed {w : World} {cb : Nat} {tv kr kf : Value} {ts : List Tri} {rs re : Nat} {rx : Bool} (hc : w.cell? ⟨cb, 1, none⟩ = some (.func (.func 5) #[] #[])) (ht : Tabs w tv ts) (h0 : Key w kr rs) (h1 : Key w kf re) :
    Env (boxed w cb tv kr kf rx) (w.heap.size + 1) w.heap.size (w.heap.size + 1 + 1) cb tv kr kf ts rs re rx ∧ (boxed w cb tv kr kf rx).heap.size = w.heap.size + 1 + 1 + 1 ∧ Below w.heap.size w (boxed w cb tv kr kf rx) := by
  have hb : Below w.heap.size w (boxed w cb tv kr kf rx) := (((Below.refl _ _).alloc (Nat.le_refl _) _).alloc (by simp) _).alloc (by simp; omega) _
  have a0 : (boxed w cb tv kr kf rx).heap[w.heap.size]? = some (.cells #[.pointer (some ⟨cb, 0, none⟩)] 51 (0, 0)) := by
    unfold boxed
    rw [Below.heap_alloc _ _ _ (by simp; omega), Below.heap_alloc _ _ _ (by simp)]
    exact heap_alloc_new w _
  have a1 : (boxed w cb tv kr kf rx).heap[w.heap.size + 1]? = some (.cells #[tv] 29 (0, 0)) := by
    unfold boxed
    rw [Below.heap_alloc _ _ _ (by simp)]
    have := heap_alloc_new (w.alloc (.cells #[.pointer (some ⟨cb, 0, none⟩)] 51)) (.cells #[tv] 29)
    simpa using this
  have a2 : (boxed w cb tv kr kf rx).heap[w.heap.size + 1 + 1]? = some (.cells #[kr, kf, .bool rx] 48 (0, 0)) := by
    unfold boxed
    have := heap_alloc_new ((w.alloc (.cells #[.pointer (some ⟨cb, 0, none⟩)] 51)).alloc (.cells #[tv] 29)) (.cells #[kr, kf, .bool rx] 48)
    simpa using this
  refine ⟨⟨?_, ht.below hb, ?_, cell_on hb hc, ?_, ?_, ?_, h0.below hb, h1.below hb⟩, by simp [boxed], hb⟩
  · rw [cell_of_row _ _ 0 _ _ _ a1]; rfl
  · rw [cell_of_row _ _ 0 _ _ _ a0]; rfl
  · rw [cell_of_row _ _ 0 _ _ _ a2]; rfl
  · rw [cell_of_row _ _ 1 _ _ _ a2]; rfl
  · rw [cell_of_row _ _ 2 _ _ _ a2]; rfl

set_option maxHeartbeats 400000 in
theorem run_any (cb : Nat) (tv kr kf : Value) (ts : List Tri) (rs re : Nat) (rx : Bool) (w : World) (hl : ts.length ≤ 1024) (ho : Ordered ts) (hc : w.cell? ⟨cb, 1, none⟩ = some (.func (.func 5) #[] #[])) (ht : Tabs w tv ts) (h0 : Key w kr rs) (h1 : Key w kf re) :
    Calls Yba.prog 9 #[.pointer (some ⟨cb, 0, none⟩), tv, .agg #[kr, kf, .bool rx]] w fun e w' => e = .returned (.tuple #[.int .i64 (loOf ts rs : Nat), .int .i64 ((loOf ts rs + nOf ts rs re rx : Nat) : Int)]) ∧ ∃ q os, w' = grow (w.drewN q) os := by
  obtain ⟨hE, hsz, hb⟩ := env_boxed (rx := rx) hc ht h0 h1
  have hb4 := (Below.refl (boxed w cb tv kr kf rx).heap.size (boxed w cb tv kr kf rx)).alloc (Nat.le_refl _) (.cells #[.int .i64 0] 3)
  have hs1 := search1 (hE.below hb4) hl ho
  have hL4 : ((boxed w cb tv kr kf rx).alloc (.cells #[.int .i64 0] 3)).heap[w.heap.size + 1 + 1 + 1]? = some (.cells #[.int .i64 0] 3 (0, 0)) := by rw [← hsz]; exact heap_alloc_new _ _
  have hs4 : ((boxed w cb tv kr kf rx).alloc (.cells #[.int .i64 0] 3)).heap.size = w.heap.size + 4 := by simp [hsz]
  obtain ⟨p, cap, rfl, hcap, _⟩ := ht
  have hmf : ∀ (fn : Fn) (first cap : Array Value) (w : World), (Instr.makeFunc fn first cap).run Yba.prog w = .ok (.func fn first cap) w := fun _ _ _ _ => rfl
  have hlo := loOf_le ts rs
  have hno := nOf_le ts rs re rx
  have hNO : Hid (nOf ts rs re rx = (List.range (ts.length - loOf ts rs)).countP (fun i => !p2 ts re rx (loOf ts rs) i)) := rfl
  generalize hW4 : (boxed w cb (.slice p ts.length cap) kr kf rx).alloc (.cells #[.int .i64 0] 3) = W4 at *
  generalize hW3 : boxed w cb (.slice p ts.length cap) kr kf rx = W3 at *
  have HW3 : Hid (boxed w cb (.slice p ts.length cap) kr kf rx = W3) := hW3
  have HW4 : Hid (W3.alloc (.cells #[.int .i64 0] 3) = W4) := hW4
  clear hW3 hW4 h0 h1 hc
  generalize loOf ts rs = lo at *
  generalize nOf ts rs re rx = nn at *
  have hd4 : W4.drawn = w.drawn := by rw [← HW4.out, ← HW3.out]; rfl
  go_enter Yba.func9, Yba.ntmps9
  go_wp2_with (go_at_call 10; refine Hid.out ?_)
  refine Lib.hid ?_
  have e4 : (((w.alloc (.cells #[.pointer (some ⟨cb, 0, none⟩)] 51)).alloc (.cells #[.slice p ts.length cap] 29)).alloc (.cells #[kr, kf, .bool rx] 48)).alloc (.cells #[.int .i64 0] 3) = W4 := by rw [← HW4.out, ← HW3.out]; rfl
  rw [e4]
  clear e4
  refine hs1.mono ?_
  rintro e w1 ⟨rfl, q1, os1, hw1⟩
  have hb5 : Below W4.heap.size W4 w1 := by rw [hw1]; exact below_grow W4 q1 os1
  have hd5 : w.drawn ≤ w1.drawn := by rw [hw1, ← hd4]; exact Nat.le_add_right _ _
  have hL5 : w1.heap[w.heap.size + 1 + 1 + 1]? = some (.cells #[.int .i64 0] 3 (0, 0)) := by rw [hb5.block _ (by omega)]; exact hL4
  have cL5 : w1.cell? ⟨w.heap.size + 1 + 1 + 1, 0, none⟩ = some (.int .i64 0) := by rw [cell_of_row _ _ 0 _ _ _ hL5]; rfl
  have fL5 : w1.frozen? ⟨w.heap.size + 1 + 1 + 1, 0, none⟩ = false := by simp [World.frozen?, hL5]
  have hb3 : Below W3.heap.size W3 w1 := hb4.trans (hb5.mono (by omega))
  have hb6 : Below W3.heap.size W3 (w1.setCell ⟨w.heap.size + 1 + 1 + 1, 0, none⟩ (.int .i64 lo)) := hb3.setCell (by rw [hsz]; exact Nat.le_refl _) _
  have hE6 := hE.below hb6
  have cL6 : (w1.setCell ⟨w.heap.size + 1 + 1 + 1, 0, none⟩ (.int .i64 lo)).cell? ⟨w.heap.size + 1 + 1 + 1, 0, none⟩ = some (.int .i64 lo) := by
    have h6 : (w1.setCell ⟨w.heap.size + 1 + 1 + 1, 0, none⟩ (.int .i64 lo)).heap[w.heap.size + 1 + 1 + 1]? = some (.cells #[.int .i64 lo] 3 (0, 0)) := by
      simp only [World.setCell, Array.getElem?_modify, if_true, hL5, Option.map_some]; rfl
    rw [cell_of_row _ _ 0 _ _ _ h6]; rfl
  have hs2 := search2 hE6 cL6 hl hlo ho
  have eN : (List.range (ts.length - lo)).countP (fun i => !p2 ts re rx lo i) = nn := hNO.out.symm
  rw [eN] at hs2
  have cT6 := hE6.cT
  have eI : ((ts.length - lo : Nat) : Int) = (ts.length : Int) - (lo : Int) := by omega
  rw [eI] at hs2
  clear hw1 hs1 hE6 eN eI
  go_wp2_with (go_at_call 10; refine Hid.out ?_)
  refine Lib.hid ?_
  refine hs2.mono ?_
  rintro e w2 ⟨rfl, q2, os2, hw2⟩
  have hb7 : Below (w.heap.size + 4) (w1.setCell ⟨w.heap.size + 1 + 1 + 1, 0, none⟩ (.int .i64 lo)) w2 := by
    rw [hw2]
    refine (below_grow _ q2 os2).mono ?_
    have := hb5.size
    show _ ≤ (w1.setCell _ _).heap.size
    simp [World.setCell]
    omega
  have hd7 : w.drawn ≤ w2.drawn := by rw [hw2]; exact Nat.le_trans hd5 (Nat.le_add_right _ _)
  have cL7 : w2.cell? ⟨w.heap.size + 1 + 1 + 1, 0, none⟩ = some (.int .i64 lo) := (hb7.cell (by show w.heap.size + 1 + 1 + 1 < w.heap.size + 4; omega)).trans cL6
  have fL7 : w2.frozen? ⟨w.heap.size + 1 + 1 + 1, 0, none⟩ = false := by
    rw [hb7.frozen (by show w.heap.size + 1 + 1 + 1 < w.heap.size + 4; omega)]
    simp [World.frozen?, World.setCell, Array.getElem?_modify, hL5]
  have hbw : Below w.heap.size w w2 := (hb.trans (hb6.mono (by omega))).trans (hb7.mono (by omega))
  clear hw2 hs2 hb7 cL6 cL5 fL5 hL5 hb5 hb3 hb6 cT6
  go_wp2
  refine bodyPost_ret (v := .tuple #[.int .i64 lo, .int .i64 ((lo + nn : Nat) : Int)]) (by simp [results, Yba.results9, go_sem, cL7]) rfl ⟨rfl, grow_of_below (hbw.setCell (by show _ ≤ w.heap.size + 1 + 1 + 1; omega) _) hd7⟩

/-- 'tables[lo:hi]', hi - lo = nn. -/
def subv (p : Option Addr) (cap lo nn : Nat) : Value := if cap = lo then .slice p nn 0 else .slice (p.map (fun x => x.add lo)) nn (cap - lo)

set_option maxHeartbeats 400000 in
theorem overlapping_any (cb : Nat) (p : Option Addr) (cap : Nat) (kr kf : Value) (ts : List Tri) (rs re : Nat) (rx : Bool) (w : World) (hl : ts.length ≤ 1024) (ho : Ordered ts) (hc : w.cell? ⟨cb, 1, none⟩ = some (.func (.func 5) #[] #[])) (ht : Tabs w (.slice p ts.length cap) ts) (h0 : Key w kr rs) (h1 : Key w kf re) :
    Calls Yba.prog 8 #[.pointer (some ⟨cb, 0, none⟩), .slice p ts.length cap, .agg #[kr, kf, .bool rx]] w fun e w' => e = .returned (subv p cap (loOf ts rs) (nOf ts rs re rx)) ∧ ∃ q os, w' = grow (w.drewN q) os := by
  have hb : Below w.heap.size w (w.alloc (.cells #[kr, kf, .bool rx] 48)) := (Below.refl _ _).alloc (Nat.le_refl _) _
  have hr := run_any cb _ kr kf ts rs re rx (w.alloc (.cells #[kr, kf, .bool rx] 48)) hl ho (cell_on hb hc) (ht.below hb) (h0.below hb) (h1.below hb)
  have hlo := loOf_le ts rs
  have hno := nOf_le ts rs re rx
  obtain ⟨p', cap', e, hcap, _⟩ := ht
  simp only [Value.slice.injEq, true_and] at e
  obtain ⟨rfl, rfl⟩ := e
  clear hc h0 h1
  generalize loOf ts rs = lo at *
  generalize nOf ts rs re rx = nn at *
  have hfin : ∀ q1 os1, ∃ q os, grow ((w.alloc (.cells #[kr, kf, .bool rx] 48)).drewN q1) os1 = grow (w.drewN q) os := fun q1 os1 => grow_of_below (hb.trans ((below_grow _ q1 os1).mono (by simp))) (Nat.le_add_right _ _)
  have hsub : lo + nn - lo = nn := by omega
  unfold subv
  by_cases hcl : cap = lo
  · subst hcl
    go_enter Yba.func8, Yba.ntmps8
    go_wp2_with (go_at_call 9; refine hr.mono ?_; rintro e w1 ⟨rfl, q1, os1, rfl⟩)
    go_ret
    exact ⟨rfl, hfin _ _⟩
  · rw [if_neg hcl]
    go_enter Yba.func8, Yba.ntmps8
    go_wp2_with (go_at_call 9; refine hr.mono ?_; rintro e w1 ⟨rfl, q1, os1, rfl⟩)
    go_ret
    exact ⟨by show Ending.returned (.slice (Option.map (fun x => x.add lo) p) (lo + nn - lo) (cap - lo)) = _; rw [hsub], hfin _ _⟩

end Go.Proofs.Ybulkafaa
