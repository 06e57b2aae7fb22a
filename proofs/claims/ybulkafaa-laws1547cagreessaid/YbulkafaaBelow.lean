/-
  (*compaction).nothingBelow, walked.
-/
import Derived.Test.YbulkafaaRun
namespace Go.Proofs.Ybulkafaa
open Go.RowKit Go.Sort

/-- The levels of a read state: level l's slice is tv l, of the tables T l. -/
structure Levels (w : World) (sb : Nat) (tv : Nat → Value) (T : Nat → List Tri) : Prop where
  cell : ∀ l, l < 7 → w.cell? ⟨sb, 1 + l, none⟩ = some (tv l)
  tabs : ∀ l, l < 7 → Tabs w (tv l) (T l)
  len : ∀ l, l < 7 → (T l).length ≤ 1024
  ord : ∀ l, l < 7 → Ordered (T l)

theorem Levels.below {w w' : World} {sb : Nat} {tv : Nat → Value} {T : Nat → List Tri} (h : Levels w sb tv T) (hb : Below w.heap.size w w') : Levels w' sb tv T :=
  ⟨fun l hl => cell_on hb (h.cell l hl), fun l hl => (h.tabs l hl).below hb, h.len, h.ord⟩

/-- No table of a level below 'out' holds a key of the range. -/
def clear (T : Nat → List Tri) (out rs re : Nat) (rx : Bool) : Bool := (List.range 7).all fun l => decide (l ≤ out) || !hit (T l) rs re rx

theorem clear_no {T : Nat → List Tri} {out rs re l : Nat} {rx : Bool} (hl : l < 7) (ho : out < l) (h : hit (T l) rs re rx = true) : clear T out rs re rx = false := by
  unfold clear
  rw [List.all_eq_false]
  exact ⟨l, List.mem_range.2 hl, by simp [h]; omega⟩

theorem clear_yes {T : Nat → List Tri} {out rs re : Nat} {rx : Bool} (h : ∀ l, out < l → l < 7 → hit (T l) rs re rx = false) : clear T out rs re rx = true := by
  unfold clear
  rw [List.all_eq_true]
  intro l hl
  have := List.mem_range.1 hl
  by_cases e : l ≤ out
  · simp [e]
  · simp [h l (by omega) this]

set_option maxHeartbeats 1000000 in
theorem nothing_any (kb cb sb out : Nat) (kr kf : Value) (tv : Nat → Value) (T : Nat → List Tri) (rs re : Nat) (rx : Bool) (w : World) (hout : out ≤ 6)
    (c0 : w.cell? ⟨kb, 0, none⟩ = some (.pointer (some ⟨cb, 0, none⟩))) (c1 : w.cell? ⟨kb, 1, none⟩ = some (.pointer (some ⟨sb, 0, none⟩))) (c9 : w.cell? ⟨kb, 9, none⟩ = some (.int .i64 out))
    (hc : w.cell? ⟨cb, 1, none⟩ = some (.func (.func 5) #[] #[])) (hL : Levels w sb tv T) (h0 : Key w kr rs) (h1 : Key w kf re) :
    Calls Yba.prog 6 #[.pointer (some ⟨kb, 0, none⟩), .agg #[kr, kf, .bool rx]] w fun e w' => e = .returned (.bool (clear T out rs re rx)) ∧ Below w.heap.size w w' := by
  have mixed := mixed
  have hb : Below w.heap.size w (w.alloc (.cells #[kr, kf, .bool rx] 48)) := (Below.refl _ _).alloc (Nat.le_refl _) _
  have d9 := cell_on hb c9
  have hn := heap_alloc_new w (.cells #[kr, kf, .bool rx] 48)
  have HC : Hid (∀ b, clear T out rs re rx = b → clear T out rs re rx = b) := fun _ h => h
  generalize hcl : clear T out rs re rx = ans at *
  have HCL : Hid (clear T out rs re rx = ans) := hcl
  clear hcl HC
  go_enter Yba.func6, Yba.ntmps6
  go_wp2
  go_loopw [5] (fun i wr => ∃ l : Nat, out < l ∧ l ≤ 7 ∧ i = .int .i64 l ∧ Hid (∀ k, out < k → k < l → hit (T k) rs re rx = false) ∧ Below (w.heap.size + 1) (w.alloc (.cells #[kr, kf, .bool rx] 48)) wr) (fun i _ => 7 - (intOf i).toNat)
  case atStart => exact ⟨out + 1, by omega, by omega, by go_num, fun k h1 h2 => by omega, Below.refl _ _⟩
  case round =>
    obtain ⟨l, hl1, hl2, rfl, hno, hbr⟩ := hrel
    have hbw : Below w.heap.size w wr := hb.trans (hbr.mono (by omega))
    by_cases hlt : l < 7
    · obtain ⟨p, cap, htv, hcap, _⟩ := hL.tabs l hlt
      have hB := fun n os => hbw.trans ((below_grow wr n os).mono hbw.size)
      have g0 := fun n os => cell_on (hB n os) c0
      have g1 := fun n os => cell_on (hB n os) c1
      have g2 := fun n os => cell_on (hB n os) (hL.cell l hlt)
      have hR : wr.heap[w.heap.size]? = some (.cells #[kr, kf, .bool rx] 48 (0, 0)) := by rw [hbr.block _ (by omega)]; exact hn
      have hRn : ∀ n os, (grow (wr.drewN n) os).heap[w.heap.size]? = some (.cells #[kr, kf, .bool rx] 48 (0, 0)) := fun n os => by rw [(below_grow wr n os).block _ (Array.getElem?_eq_some_iff.1 hR).1]; exact hR
      have r0 : ∀ n os, (grow (wr.drewN n) os).cell? ⟨w.heap.size, 0, none⟩ = some kr := fun n os => by rw [cell_of_row _ _ 0 _ _ _ (hRn n os)]; rfl
      have r1 : ∀ n os, (grow (wr.drewN n) os).cell? ⟨w.heap.size, 1, none⟩ = some kf := fun n os => by rw [cell_of_row _ _ 1 _ _ _ (hRn n os)]; rfl
      have r2 : ∀ n os, (grow (wr.drewN n) os).cell? ⟨w.heap.size, 2, none⟩ = some (.bool rx) := fun n os => by rw [cell_of_row _ _ 2 _ _ _ (hRn n os)]; rfl
      obtain ⟨P, C, hsub⟩ : ∃ P C, subv p cap (loOf (T l) rs) (nOf (T l) rs re rx) = .slice P (nOf (T l) rs re rx) C := by unfold subv; split <;> exact ⟨_, _, rfl⟩
      have hcall : ∀ n os, Calls Yba.prog 8 #[.pointer (some ⟨cb, 0, none⟩), .slice p (T l).length cap, .agg #[kr, kf, .bool rx]] (grow (wr.drewN n) os) fun e w'' => e = .returned (.slice P (nOf (T l) rs re rx) C) ∧ ∃ p : GrownBy, w'' = grow (wr.drewN p.n) p.os := by
        intro n os
        refine Calls.grown_of ?_
        rw [← hsub]
        exact overlapping_any cb p cap kr kf (T l) rs re rx _ (hL.len l hlt) (hL.ord l hlt) (cell_on (hB n os) hc) (by rw [← htv]; exact (hL.tabs l hlt).below (hB n os)) (h0.below (hB n os)) (h1.below (hB n os))
      have hlaw := run_law (hL.ord l hlt) rs re rx
      have hfin := fun n os => (below_grow wr n os).mono (show w.heap.size + 1 ≤ wr.heap.size by have := hbr.size; simp at this; omega)
      rw [htv] at g2
      have hlen := hL.len l hlt
      have hl7 : (l : Int) < 7 := by omega
      generalize (T l).length = n at *
      have HL : Hid (decide (0 < nOf (T l) rs re rx) = hit (T l) rs re rx) := hlaw
      generalize nOf (T l) rs re rx = nn at *
      clear hlaw hsub hRn hR htv hn hB
      by_cases hh : hit (T l) rs re rx = true
      · have hnn0 : 0 < nn := by have := HL.out; rw [hh] at this; simpa using this
        have hz : decide ((0 : Int) < (nn : Int)) = true := by simp; omega
        have hans : ans = false := by rw [← HCL.out]; exact clear_no hlt hl1 hh
        subst hans
        clear hh
        go_wp2
        go_quiet_grown ((go_at_call 8; exact hcall _ _))
        go_wp2
        go_ret
        exact ⟨rfl, hbw.trans ((below_grow wr _ _).mono hbw.size)⟩
      · have hh' : hit (T l) rs re rx = false := by simpa using hh
        have hnn0 : nn = 0 := by have := HL.out; rw [hh'] at this; simpa using this
        have HH : Hid (hit (T l) rs re rx = false) := hh'
        subst hnn0
        clear hh hh'
        go_wp2
        go_quiet_grown ((go_at_call 8; exact hcall _ _))
        go_wp2
        go_roundw
        case rel => exact ⟨l + 1, by omega, by omega, by go_num, fun k h1 h2 => by
          by_cases e : k = l
          · rw [e]; exact HH.out
          · exact hno.out k h1 (by omega), hbr.trans (hfin _ _)⟩
        case measure => simp [intOf]; omega
    · have hyes : ans = true := by rw [← HCL.out]; exact clear_yes fun k h1 h2 => hno.out k h1 (by omega)
      subst hyes
      go_wp2
      go_ret
      exact ⟨rfl, hbw⟩

end Go.Proofs.Ybulkafaa
