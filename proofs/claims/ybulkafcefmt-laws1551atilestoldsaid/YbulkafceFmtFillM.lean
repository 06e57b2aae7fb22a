/-
  fill: what it holds in memory.
-/
import Derived.Test.YbulkafceFmtRaise
import Derived.Test.YbulkafceFmtReset
import Derived.Test.YbulkafceFmtFillP
namespace Go.Proofs.YbulkafceFmt
open Go.RowKit

def four (jb : Nat) (t : Int) (p : Pc) : List Value := [.int .i64 (jb : Int), .int .i64 (p.n : Int), .int .i64 (p.f : Int), .int .i64 (t + (p.a : Int))]
def pcs (t : Int) (jobs : Nat → Nat) : Nat → List Pc → List Value
  | _, [] => []
  | k, p :: r => four (jobs k) t p ++ pcs t jobs (k + 1) r

theorem pcs_snoc (t : Int) (jobs : Nat → Nat) (ps : List Pc) (p : Pc) (k : Nat) : pcs t jobs k (ps ++ [p]) = pcs t jobs k ps ++ four (jobs (k + ps.length)) t p := by
  induction ps generalizing k with
  | nil => simp [pcs]
  | cons a r ih =>
    simp only [List.cons_append, pcs, ih, List.append_assoc, List.length_cons]
    rw [show k + 1 + r.length = k + (r.length + 1) by omega]

theorem pcs_length (t : Int) (jobs : Nat → Nat) (ps : List Pc) (k : Nat) : (pcs t jobs k ps).length = ps.length * 4 := by
  induction ps generalizing k with
  | nil => rfl
  | cons a r ih => simp [pcs, ih, four]; omega

theorem pcs_at (t : Int) (jobs : Nat → Nat) (ps : List Pc) (k q d : Nat) (p : Pc) (hp : ps[q]? = some p) (hd : d < 4) : (pcs t jobs k ps)[q * 4 + d]? = (four (jobs (k + q)) t p)[d]? := by
  induction ps generalizing k q with
  | nil => simp at hp
  | cons a r ih =>
    cases q with
    | zero =>
      simp at hp
      subst hp
      simp only [pcs]
      rw [List.getElem?_append_left (by simp [four]; omega)]
      simp
    | succ q =>
      simp at hp
      simp only [pcs]
      rw [List.getElem?_append_right (by simp [four]; omega), show (q + 1) * 4 + d - (four (jobs k) t a).length = q * 4 + d by simp [four]; omega, ih (k + 1) q hp, show k + 1 + q = k + (q + 1) by omega]

theorem four_one (jb : Nat) (t : Int) (p : Pc) : ∀ u ∈ four jb t p, u.oneCell' = true := by
  intro u hu
  simp [four] at hu
  rcases hu with rfl | rfl | rfl | rfl <;> rfl

/-- What fill leaves as it was: all below B but the row that it was handed. -/
structure FillF (B : Nat) (v0 : Value) (w w' : World) : Prop where
  os : w'.os = w.os
  tape : w'.tape = w.tape
  output : w'.output = w.output
  size : w.heap.size ≤ w'.heap.size
  block : ∀ d, d < B → v0.ownBlock ≠ some d → w'.heap[d]? = w.heap[d]?

theorem FillF.refl (B : Nat) (v0 : Value) (w : World) : FillF B v0 w w := ⟨rfl, rfl, rfl, Nat.le_refl _, fun _ _ _ => rfl⟩
theorem FillF.below {B : Nat} {v0 : Value} {w w' w'' : World} (h : FillF B v0 w w') (hb : Below B w' w'') : FillF B v0 w w'' :=
  ⟨hb.os.trans h.os, hb.tape.trans h.tape, hb.output.trans h.output, Nat.le_trans h.size hb.size, fun d h1 h2 => (hb.block d h1).trans (h.block d h1 h2)⟩
theorem FillF.grown {B : Nat} {v0 v : Value} {w w' w'' : World} (h : FillF B v0 w w') (hB : B ≤ w'.heap.size) (hv : v.ownBlock = v0.ownBlock ∨ ∃ d, v.ownBlock = some d ∧ B ≤ d) (hg : w'.grownBy w'' v.ownBlock) : FillF B v0 w w'' :=
  ⟨hg.os.trans h.os, hg.tape.trans h.tape, hg.output.trans h.output, Nat.le_trans h.size hg.size, fun d h1 h2 => by
    rw [hg.block d (by omega) (fun e => ?_)]
    · exact h.block d h1 h2
    · rcases hv with hv | ⟨g, hv, hge⟩
      · rw [hv] at e; exact h2 e.symm
      · rw [hv] at e; cases e; omega⟩
theorem FillF.cell {B : Nat} {v0 : Value} {w w' : World} (h : FillF B v0 w w') {b o : Nat} {v : Value} (hb : b < B) (hne : v0.ownBlock ≠ some b) (hc : w.cell? ⟨b, o, none⟩ = some v) : w'.cell? ⟨b, o, none⟩ = some v :=
  (World.cell?_of_block (h.block b hb hne)).trans hc

theorem len64_any (m : Nat) (hm : m ≤ 64) (w : World) : Calls Ybaf.prog 8 #[.int .u64 (m : Int)] w fun e w' => e = .returned (.int .i64 (Lib.bitLen m : Nat)) ∧ w' = w := by
  refine (Any.bits_Len64 Ybaf.lays129 (m : Int) w (Int.natCast_nonneg _) (by omega)).mono ?_
  rintro e w' ⟨rfl, rfl⟩
  exact ⟨by rw [Int.toNat_natCast], rfl⟩

/-- No two of the pieces overlap. -/
def PwApart (ps : List Pc) : Prop := ps.Pairwise fun a b => nodesMeet a.f a.n b.f b.n → ¬ (a.a < b.e ∧ b.a < a.e)

/-- fill's loop behind k jobs. -/
structure FI (w wr : World) (B rb ob ocap oN n j p0 : Nat) (t : Int) (v0 : Value) (xs : List Value) (jobs g : Nat → Nat) (k : Nat) (v : Value) : Prop where
  ex : ∃ sb scap R S sz live O ps, FM wr B rb sb scap ob ocap oN R S sz O j ∧ St j S sz live O ∧ Plain n j k g ps (sgs S live) ∧ wr.ownsRow 0 44 4 v (p0 + k) (xs ++ pcs t jobs 0 ps) ∧ sz ≤ k + 1
  own : v.ownBlock = v0.ownBlock ∨ ∃ d, v.ownBlock = some d ∧ B ≤ d
  fr : FillF B v0 w wr

end Go.Proofs.YbulkafceFmt
