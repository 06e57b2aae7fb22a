/-
  The law's head: what its loops then read.
-/
import Derived.Test.YbulkafceFmtBuild
namespace Go.Proofs.YbulkafceFmt
open Go.RowKit

theorem pfx_length (P : Nat) : (pfx P).length = P * 4 := by
  induction P with
  | zero => rfl
  | succ k ih => simp [pfx, ih, pfx1]; omega

theorem pfx_at {P k d : Nat} (hk : k < P) (hd : d < 4) : (pfx P)[k * 4 + d]? = (pfx1 k)[d]? := by
  induction P with
  | zero => omega
  | succ m ih =>
    simp only [pfx]
    by_cases e : k = m
    · subst e
      rw [List.getElem?_append_right (by rw [pfx_length]; omega), pfx_length, show k * 4 + d - k * 4 = d by omega]
    · rw [List.getElem?_append_left (by rw [pfx_length]; omega)]
      exact ih (by omega)

/-- What the loops read. -/
structure Rd (w : World) (g eb mb jb n j P : Nat) (t : Int) (jobs M : Nat → Nat) (ps : List Pc) : Prop where
  out0 : ∀ k, k < P → ∀ d v, (pfx1 k)[d]? = some v → w.cell? ⟨g, k * 4 + d, none⟩ = some v
  exp : ∀ k, k < P → ∀ d v, (pfx1 k)[d]? = some v → w.cell? ⟨eb, k * 4 + d, none⟩ = some v
  out1 : ∀ k p, ps[k]? = some p → ∀ d v, (four (jobs k) t p)[d]? = some v → w.cell? ⟨g, (P + k) * 4 + d, none⟩ = some v
  len : ps.length = 2 ^ j
  good : ∀ k p, ps[k]? = some p → Good n j (M (jobs k)) p
  apart : PwApart ps
  jb : ∀ k, k < 2 ^ j → w.cell? ⟨jb, k, none⟩ = some (.int .i64 (jobs k : Int)) ∧ jobs k < 2 ^ j
  mb : ∀ k, k < 2 ^ j → w.cell? ⟨mb, k, none⟩ = some (.int .i64 (M k : Int))

theorem Rd.below {w w' : World} {g eb mb jb n j P : Nat} {t : Int} {jobs M : Nat → Nat} {ps : List Pc} (h : Rd w g eb mb jb n j P t jobs M ps) (hb : Below w.heap.size w w') : Rd w' g eb mb jb n j P t jobs M ps := by
  have key : ∀ {a : Addr} {v : Value}, w.cell? a = some v → w'.cell? a = some v := fun {a v} hc => (World.cell?_of_block (hb.block a.block (World.block_lt_of_cell? w a hc))).trans hc
  exact ⟨fun k hk d v hv => key (h.out0 k hk d v hv), fun k hk d v hv => key (h.exp k hk d v hv), fun k p hp d v hv => key (h.out1 k p hp d v hv), h.len, h.good, h.apart, fun k hk => ⟨key (h.jb k hk).1, (h.jb k hk).2⟩, fun k hk => key (h.mb k hk)⟩

theorem Rd.make {w : World} {v ev : Value} {g eb mb jb n j P base cap : Nat} {t : Int} {jobs M : Nat → Nat} {ps : List Pc} (hv : v = .slice (some ⟨g, 0, none⟩) (P + 2 ^ j) cap) (he : ev.ownBlock = some eb)
    (ho : w.ownsRow 0 44 4 v (P + 2 ^ j) (pfx P ++ pcs t jobs 0 ps)) (hE : w.ownsRow base 44 4 ev P (pfx P)) (hl : ps.length = 2 ^ j) (hg : ∀ k p, ps[k]? = some p → Good n j (M (jobs k)) p) (ha : PwApart ps)
    (hj : ∀ k, k < 2 ^ j → w.cell? ⟨jb, k, none⟩ = some (.int .i64 (jobs k : Int)) ∧ jobs k < 2 ^ j) (hm : ∀ k, k < 2 ^ j → w.cell? ⟨mb, k, none⟩ = some (.int .i64 (M k : Int))) : Rd w g eb mb jb n j P t jobs M ps := by
  have hc := ho.cells (g := g) (by rw [hv]; rfl)
  have hce := hE.cells (g := eb) he
  have hc' : ∀ q u, (pfx P ++ pcs t jobs 0 ps)[q]? = some u → w.cell? ⟨g, q, none⟩ = some u := fun q u hq => by
    have h1 := hc q u hq
    by_cases e : q = 0
    · subst e; simpa [Addr.add] using h1
    · simpa [Addr.add, e] using h1
  have hce' : ∀ q u, (pfx P)[q]? = some u → w.cell? ⟨eb, q, none⟩ = some u := fun q u hq => by
    have h1 := hce q u hq
    by_cases e : q = 0
    · subst e; simpa [Addr.add] using h1
    · simpa [Addr.add, e] using h1
  have h4 : ∀ k d v, (pfx1 k)[d]? = some v → d < 4 := fun k d v h => by
    have := (List.getElem?_eq_some_iff.1 h).1
    simpa [pfx1] using this
  refine ⟨fun k hk d u hu => hc' _ _ ?_, fun k hk d u hu => hce' _ _ ?_, fun k p hp d u hu => hc' _ _ ?_, hl, hg, ha, hj, hm⟩
  · have hd := h4 k d u hu
    rw [List.getElem?_append_left (by rw [pfx_length]; omega), pfx_at hk hd]
    exact hu
  · rw [pfx_at hk (h4 k d u hu)]
    exact hu
  · have hd : d < 4 := by
      have := (List.getElem?_eq_some_iff.1 hu).1
      simpa [four] using this
    rw [List.getElem?_append_right (by rw [pfx_length]; omega), pfx_length, show (P + k) * 4 + d - P * 4 = k * 4 + d by omega, pcs_at t jobs ps 0 k d p hp hd, Nat.zero_add]
    exact hu

end Go.Proofs.YbulkafceFmt
