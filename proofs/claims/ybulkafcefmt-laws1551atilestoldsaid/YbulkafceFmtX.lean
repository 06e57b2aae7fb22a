/-
  close and reopen beside a copy of a segment.
-/
import Derived.Test.YbulkafceFmtSeg
namespace Go.Proofs.YbulkafceFmt
open Go.RowKit

def sixA (e : En) : Array Value := #[fld e 0, fld e 1, fld e 2, fld e 3, fld e 4, fld e 5]

/-- The blocks of pieces are as they were. -/
def K44 (w0 w : World) : Prop := ∀ (d : Nat) (cs : Array Value), w0.heap[d]? = some (.cells cs 44 (0, 0)) → w.heap[d]? = some (.cells cs 44 (0, 0))

/-- The frontier, and a copy of a segment in a block of its own. -/
structure FX (w : World) (B rb sb scap ob ocap oN : Nat) (R : Nat → Value) (S : Nat → En) (sz : Nat) (O : Nat → Option Nat) (j n0 : Nat) (e : En) (w0 : World) : Prop where
  fm : FM w B rb sb scap ob ocap oN R S sz O j
  own : w.heap[n0]? = some (.cells (sixA e) 56 (0, 0))
  ne : n0 ≠ rb ∧ n0 ≠ sb ∧ n0 ≠ ob
  nr : ∀ y, y ≤ j → (R y).ownBlock ≠ some n0
  ge : B ≤ n0
  pr : K44 w0 w

section
variable {B rb sb scap ob ocap oN : Nat} {R : Nat → Value} {S : Nat → En} {sz : Nat} {O : Nat → Option Nat} {j n0 : Nat} {e : En} {w0 : World}

/-- A block of pieces is none of the frontier's. -/
theorem FM.ne44 {w : World} {d : Nat} {cs : Array Value} (h : FM w B rb sb scap ob ocap oN R S sz O j) (hd : w.heap[d]? = some (.cells cs 44 (0, 0))) : d ≠ rb ∧ d ≠ sb ∧ d ≠ ob ∧ ∀ y, y ≤ j → (R y).ownBlock ≠ some d := by
  obtain ⟨c1, h1, _⟩ := h.room
  obtain ⟨c2, h2, _⟩ := h.seg
  obtain ⟨c3, h3, _⟩ := h.opn
  refine ⟨fun e => ?_, fun e => ?_, fun e => ?_, fun y hy e => ?_⟩
  · subst e; rw [hd] at h1; simp at h1
  · subst e; rw [hd] at h2; simp at h2
  · subst e; rw [hd] at h3; simp at h3
  · obtain ⟨cur, hc⟩ := own_row (h.inner y hy) e
    rw [hd] at hc
    simp at hc

theorem upd_same {α : Type} (S : Nat → α) (i : Nat) : upd S i (S i) = S := by
  funext k
  by_cases h : k = i
  · subst h; rw [upd_self]
  · rw [upd_ne _ _ h]

theorem close_x (i : Nat) (w : World) (hj : j < 7) (hX : FX w B rb sb scap ob ocap oN R S sz O j n0 e w0) (hi : i < sz) (hsl : SlotOk j (S i)) (hO : (S i).h < 2 ^ j → O (dep j (S i).h) = some i) (hT : TabAt 0 Lib.deBruijn64tab w) :
    Calls Ybaf.prog 16 #[.pointer (some ⟨rb, 17, none⟩), .int .i64 (i : Int)] w fun en w' => en = .returned (.tuple #[]) ∧ (∃ R', FX w' B rb sb scap ob ocap oN R' (upd S i { S i with sl := -1 }) sz (if (S i).h < 2 ^ j then upd O (dep j (S i).h) none else O) j n0 e w0) ∧ Below B w w' := by
  by_cases ho : (S i).h < 2 ^ j
  · have hsl' : (S i).sl = 0 := by unfold SlotOk at hsl; rw [if_pos ho] at hsl; exact hsl
    refine (close_open i w hj hX.fm hi hsl' ho (hO ho) hT).mono fun en w' ⟨h1, ⟨R', h2, h3⟩, h4, h5⟩ => ?_
    rw [if_pos ho]
    exact ⟨h1, ⟨R', h2, by rw [h5.block n0 hX.ne.2.1 hX.ne.2.2]; exact hX.own, hX.ne, fun y hy => by rw [h3 y]; exact hX.nr y hy, hX.ge, fun d cs hd => by have hw := hX.pr d cs hd; obtain ⟨_, m2, m3, _⟩ := hX.fm.ne44 hw; rw [h5.block d m2 m3]; exact hw⟩, h4⟩
  · have hsl' : (S i).sl = -1 := by unfold SlotOk at hsl; rw [if_neg ho] at hsl; exact hsl
    refine (close_shut i w hX.fm hi hsl').mono fun en w' ⟨h1, h2⟩ => ?_
    subst h2
    rw [if_neg ho]
    have hS : upd S i { S i with sl := -1 } = S := by
      have : ({ S i with sl := -1 } : En) = S i := by cases hc : S i; rw [hc] at hsl'; simp at hsl'; simp [hsl']
      rw [this, upd_same]
    rw [hS]
    exact ⟨h1, ⟨R, hX⟩, Below.refl _ _⟩

theorem reopen_x (i : Nat) (w : World) (hj : j < 7) (hX : FX w B rb sb scap ob ocap oN R S sz O j n0 e w0) (hi : i < sz) (hle : (S i).h ≤ 2 ^ j) (hO : (S i).h < 2 ^ j → O (dep j (S i).h) = none) (hT : TabAt 0 Lib.deBruijn64tab w) :
    Calls Ybaf.prog 14 #[.pointer (some ⟨rb, 17, none⟩), .int .i64 (i : Int)] w fun en w' => en = .returned (.tuple #[]) ∧ (∃ R', FX w' B rb sb scap ob ocap oN R' (upd S i { S i with sl := if (S i).h < 2 ^ j then 0 else -1 }) sz (if (S i).h < 2 ^ j then upd O (dep j (S i).h) (some i) else O) j n0 e w0) ∧ Below B w w' := by
  have hn : n0 < w.heap.size := lt_heap hX.own
  by_cases ho : (S i).h < 2 ^ j
  · refine (reopen_low i w hj hX.fm hi ho (hO ho) hT).mono fun en w' ⟨h1, ⟨R', h2, h3⟩, h4, h5, _⟩ => ?_
    rw [if_pos ho, if_pos ho]
    refine ⟨h1, ⟨R', h2, by rw [h5 n0 hn hX.ne.2.1 hX.ne.2.2 hX.nr]; exact hX.own, hX.ne, fun y hy => ?_, hX.ge, fun d cs hd => by have hw := hX.pr d cs hd; obtain ⟨_, m2, m3, m4⟩ := hX.fm.ne44 hw; rw [h5 d (lt_heap hw) m2 m3 m4]; exact hw⟩, h4⟩
    rcases h3 y with h | ⟨k, hk, hge⟩
    · rw [h]; exact hX.nr y hy
    · rw [hk]; intro e; cases e; omega
  · refine (reopen_top i w hX.fm hi (by omega)).mono fun en w' ⟨h1, h2, h3, h4⟩ => ?_
    rw [if_neg ho, if_neg ho]
    exact ⟨h1, ⟨R, h2, by rw [h4.block n0 hX.ne.2.1 hX.ne.2.2]; exact hX.own, hX.ne, hX.nr, hX.ge, fun d cs hd => by have hw := hX.pr d cs hd; obtain ⟨_, m2, m3, _⟩ := hX.fm.ne44 hw; rw [h4.block d m2 m3]; exact hw⟩, h3⟩
end

end Go.Proofs.YbulkafceFmt
