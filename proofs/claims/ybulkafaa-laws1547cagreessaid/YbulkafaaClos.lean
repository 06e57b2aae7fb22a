/-
  The two closures of overlapRun, and sort.Search over them.
-/
import Derived.Test.YbulkafaaCmp
import Derived.Shelf.SlSortCmp.QuietGrown
import Derived.Shelf.SlSorted.Search
namespace Go.Proofs.Ybulkafaa
open Go.RowKit Go.Sort

/-- A table's bounds, as numbers. -/
structure Tri where
  s : Nat
  e : Nat
  x : Bool

/-- The pointer v leads to a table with these bounds. -/
def Tab (w : World) (v : Value) (t : Tri) : Prop :=
  ∃ b ks ke, v = .pointer (some ⟨b, 0, none⟩) ∧ w.cell? ⟨b, 11, none⟩ = some ks ∧ w.cell? ⟨b, 12, none⟩ = some ke ∧ w.cell? ⟨b, 13, none⟩ = some (.bool t.x) ∧ Key w ks t.s ∧ Key w ke t.e

/-- The slice v holds pointers to tables with these bounds. -/
def Tabs (w : World) (v : Value) (ts : List Tri) : Prop :=
  ∃ p cap, v = .slice p ts.length cap ∧ ts.length ≤ cap ∧ ∀ j t, ts[j]? = some t → ∃ b o tv, p = some ⟨b, o, none⟩ ∧ w.cell? ⟨b, o + j, none⟩ = some tv ∧ Tab w tv t

section
variable {w w' : World}
theorem cell_on (hb : Below w.heap.size w w') {a : Addr} {v : Value} (h : w.cell? a = some v) : w'.cell? a = some v := (hb.cell (World.block_lt_of_cell? w a h)).trans h

theorem Tab.below {v : Value} {t : Tri} (h : Tab w v t) (hb : Below w.heap.size w w') : Tab w' v t := by
  obtain ⟨b, ks, ke, rfl, c1, c2, c3, k1, k2⟩ := h
  exact ⟨b, ks, ke, rfl, cell_on hb c1, cell_on hb c2, cell_on hb c3, k1.below hb, k2.below hb⟩

theorem Tabs.below {v : Value} {ts : List Tri} (h : Tabs w v ts) (hb : Below w.heap.size w w') : Tabs w' v ts := by
  obtain ⟨p, cap, rfl, hcap, hc⟩ := h
  refine ⟨p, cap, rfl, hcap, fun j t ht => ?_⟩
  obtain ⟨b, o, tv, hp, c, k⟩ := hc j t ht
  exact ⟨b, o, tv, hp, cell_on hb c, k.below hb⟩
end

theorem below_grow (w : World) (q : Nat) (os : Array Obj) : Below w.heap.size w (grow (w.drewN q) os) := below_grown_sl _ _ _ _ (Nat.le_refl _)

theorem alloc_grow (w : World) (o : Obj) : w.alloc o = grow (w.drewN 0) #[o] := alloc_eq_grow w o

/-- What the closures see. -/
structure Env (w : World) (bT bC bR cb : Nat) (tv kr kf : Value) (ts : List Tri) (rs re : Nat) (rx : Bool) : Prop where
  cT : w.cell? ⟨bT, 0, none⟩ = some tv
  tabs : Tabs w tv ts
  cC : w.cell? ⟨bC, 0, none⟩ = some (.pointer (some ⟨cb, 0, none⟩))
  cmp : w.cell? ⟨cb, 1, none⟩ = some (.func (.func 5) #[] #[])
  r0 : w.cell? ⟨bR, 0, none⟩ = some kr
  r1 : w.cell? ⟨bR, 1, none⟩ = some kf
  r2 : w.cell? ⟨bR, 2, none⟩ = some (.bool rx)
  k0 : Key w kr rs
  k1 : Key w kf re

theorem Env.below {w w' : World} {bT bC bR cb : Nat} {tv kr kf : Value} {ts : List Tri} {rs re : Nat} {rx : Bool} (h : Env w bT bC bR cb tv kr kf ts rs re rx) (hb : Below w.heap.size w w') : Env w' bT bC bR cb tv kr kf ts rs re rx :=
  ⟨cell_on hb h.cT, h.tabs.below hb, cell_on hb h.cC, cell_on hb h.cmp, cell_on hb h.r0, cell_on hb h.r1, cell_on hb h.r2, h.k0.below hb, h.k1.below hb⟩

theorem mixed : Yba.prog.follows .mixedOrders = true := by kernel_rfl

set_option maxHeartbeats 400000 in
theorem clos1 {w : World} {bT bC bR cb : Nat} {tv kr kf : Value} {ts : List Tri} {rs re : Nat} {rx : Bool} (h : Env w bT bC bR cb tv kr kf ts rs re rx) (j : Nat) (t : Tri) (ht : ts[j]? = some t) :
    Calls Yba.prog 11 #[.int .i64 j, .pointer (some ⟨bT, 0, none⟩), .pointer (some ⟨bC, 0, none⟩), .pointer (some ⟨bR, 0, none⟩)] w fun e w' => e = .returned (.bool (!bef t.e t.x rs)) ∧ ∃ q os, w' = grow (w.drewN q) os := by
  have mixed := mixed
  have hj : j < ts.length := (List.getElem?_eq_some_iff.1 ht).1
  obtain ⟨p, cap, rfl, hcap, hc⟩ := h.tabs
  obtain ⟨b, o, tv, rfl, c, b', ks, ke, rfl, t1, t2, t3, k1, k2⟩ := hc j t ht
  have hB := fun n os => below_grow w n os
  have g1 := fun n os => cell_on (hB n os) h.cT
  have g2 := fun n os => cell_on (hB n os) c
  have g3 := fun n os => cell_on (hB n os) t1
  have g4 := fun n os => cell_on (hB n os) t2
  have g5 := fun n os => cell_on (hB n os) t3
  have g6 := fun n os => cell_on (hB n os) h.cC
  have g7 := fun n os => cell_on (hB n os) h.r0
  have hcall : ∀ n os, Calls Yba.prog 12 #[.agg #[ks, ke, .bool t.x], .pointer (some ⟨cb, 0, none⟩), kr] (grow (w.drewN n) os) fun e w'' => e = .returned (.bool (bef t.e t.x rs)) ∧ ∃ p : GrownBy, w'' = grow (w.drewN p.n) p.os := by
    intro n os
    refine Calls.grown_of ?_
    refine (before_any cb ks ke kr t.e rs t.x _ (cell_on (hB n os) h.cmp) (k2.below (hB n os)) (h.k0.below (hB n os))).mono ?_
    rintro e w' ⟨rfl, rfl⟩
    exact ⟨rfl, 0, _, alloc_grow _ _⟩
  have hj2 : (j : Int) < (ts.length : Int) := by omega
  generalize ts.length = L at *
  generalize bef t.e t.x rs = B at *
  generalize t.x = X at *
  clear hc h c t1 t2 t3 k1 k2 hB ht
  go_enter Yba.func11, Yba.ntmps11
  go_wp2
  go_quiet_grown ((go_at_call 12; exact hcall _ _))
  go_wp2
  go_ret
  exact ⟨rfl, _, _, rfl⟩

set_option maxHeartbeats 400000 in
theorem clos2 {w : World} {bT bC bR bL cb lo : Nat} {tv kr kf : Value} {ts : List Tri} {rs re : Nat} {rx : Bool} (h : Env w bT bC bR cb tv kr kf ts rs re rx) (hlo : w.cell? ⟨bL, 0, none⟩ = some (.int .i64 lo)) (hl : ts.length ≤ 1024) (j : Nat) (t : Tri) (ht : ts[lo + j]? = some t) :
    Calls Yba.prog 13 #[.int .i64 j, .pointer (some ⟨bR, 0, none⟩), .pointer (some ⟨bC, 0, none⟩), .pointer (some ⟨bT, 0, none⟩), .pointer (some ⟨bL, 0, none⟩)] w fun e w' => e = .returned (.bool (bef re rx t.s)) ∧ ∃ q os, w' = grow (w.drewN q) os := by
  have mixed := mixed
  have hj : lo + j < ts.length := (List.getElem?_eq_some_iff.1 ht).1
  obtain ⟨m, HM⟩ : ∃ m, Hid (m = lo + j) := ⟨_, rfl⟩
  have hwr : IntKind.i64.wrap ((lo : Int) + (j : Int)) = (m : Int) := by rw [IntKind.wrap_i64, HM.out]; omega
  rw [← HM.out] at ht hj
  obtain ⟨p, cap, rfl, hcap, hc⟩ := h.tabs
  obtain ⟨b, o, tv, rfl, c, b', ks, ke, rfl, t1, t2, t3, k1, k2⟩ := hc m t ht
  have hB := fun n os => below_grow w n os
  have g1 := fun n os => cell_on (hB n os) h.cT
  have g2 := fun n os => cell_on (hB n os) c
  have g3 := fun n os => cell_on (hB n os) t1
  have g4 := fun n os => cell_on (hB n os) h.r1
  have g5 := fun n os => cell_on (hB n os) h.r2
  have g6 := fun n os => cell_on (hB n os) h.cC
  have g7 := fun n os => cell_on (hB n os) h.r0
  have g8 := fun n os => cell_on (hB n os) hlo
  have hcall : ∀ n os, Calls Yba.prog 12 #[.agg #[kr, kf, .bool rx], .pointer (some ⟨cb, 0, none⟩), ks] (grow (w.drewN n) os) fun e w'' => e = .returned (.bool (bef re rx t.s)) ∧ ∃ p : GrownBy, w'' = grow (w.drewN p.n) p.os := by
    intro n os
    refine Calls.grown_of ?_
    refine (before_any cb kr kf ks re t.s rx _ (cell_on (hB n os) h.cmp) (h.k1.below (hB n os)) (k1.below (hB n os))).mono ?_
    rintro e w' ⟨rfl, rfl⟩
    exact ⟨rfl, 0, _, alloc_grow _ _⟩
  have hj2 : (m : Int) < (ts.length : Int) := by omega
  generalize ts.length = L at *
  generalize bef re rx t.s = B at *
  clear hc h c t1 t2 t3 k1 k2 hB ht hlo
  go_enter Yba.func13, Yba.ntmps13
  go_wp2
  go_quiet_grown ((go_at_call 12; exact hcall _ _))
  go_wp2
  go_ret
  exact ⟨rfl, _, _, rfl⟩

end Go.Proofs.Ybulkafaa
