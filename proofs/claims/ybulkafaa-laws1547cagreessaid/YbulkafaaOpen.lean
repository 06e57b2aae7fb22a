/-
  The input of LawS1547CAgrees, opened.
-/
import Derived.Test.YbulkafaaStage
import Derived.ProofKit
import Derived.OpenShut
import Derived.ShutString
import Derived.ChangeOld
import Derived.Below
import Derived.Deep.Slices
import Derived.Deep.Strs
import Derived.Lib.SmallJoins
namespace Go.Proofs.Ybulkafaa
open Go.ChangeShapes Go.WideShapes Go.ChangeAt Go.RowKit Go.Deep

variable {H : Type} {enc : TypeId × Value → H} {W : World}

theorem byte_nat {z : Int} (wz : (Lit.int .u8 z).wf = true) : ∃ n : Nat, z = (n : Int) ∧ n < 256 := by
  have b : 0 ≤ z ∧ z ≤ 255 := by simpa [Lit.wf, IntKind.min, IntKind.max, IntKind.signed, IntKind.bits] using wz
  exact ⟨z.toNat, by omega, by omega⟩

set_option maxRecDepth 100000 in
/-- One step. -/
theorem open_step {a : Addr} {cs : List Value} {n : Nat} {x : DataW H × List MemPlace} (hc : W.cells? 0 a 3 = some cs) (h : DataW.trod enc Yba.prog W 0 (fun _ => true) true n 43 cs = some x) :
    ∃ (b o g d : Nat) (e : Bool), a = ⟨b, o, none⟩ ∧ W.cell? ⟨b, o, none⟩ = some (.int .u8 (g : Int)) ∧ W.cell? ⟨b, o + 1, none⟩ = some (.int .u8 (d : Int)) ∧ W.cell? ⟨b, o + 2, none⟩ = some (.bool e) ∧ g < 256 ∧ d < 256 := by
  obtain ⟨_, hlen, hcell⟩ := World.cells?_some hc
  obtain ⟨y0, y1, y2, m, _, _, t0, t1, t2⟩ := trod_struct3 Yba.underlying43 h
  have k5 : Yba.prog.cellsOf 5 = 1 := by kernel_rfl
  have k4 : Yba.prog.cellsOf 4 = 1 := by kernel_rfl
  match cs, hlen with
  | [c0, c1, c2], _ =>
    simp only [k5, k4, List.drop_zero, List.take_succ_cons, List.take_zero, List.drop_succ_cons] at t0 t1 t2
    obtain ⟨z0, e0, _, w0⟩ := DataW.trod_int Yba.underlying5 t0
    obtain ⟨z1, e1, _, w1⟩ := DataW.trod_int Yba.underlying5 t1
    obtain ⟨z2, e2, _⟩ := DataW.trod_bool Yba.underlying4 t2
    simp at e0 e1 e2
    subst e0; subst e1; subst e2
    obtain ⟨g, rfl, hg⟩ := byte_nat w0
    obtain ⟨d, rfl, hd⟩ := byte_nat w1
    have h0 := hcell 0 (by omega)
    have h1 := hcell 1 (by omega)
    have h2 := hcell 2 (by omega)
    simp at h0 h1 h2
    obtain ⟨b, o, spot⟩ := a
    have hs : spot = none := by simpa [Addr.add] using World.cell?_spot h0
    subst hs
    rw [Addr.add_lit] at h0 h1 h2
    exact ⟨b, o, g, d, z2, rfl, by simpa using h0, h1, h2, hg, hd⟩

set_option maxRecDepth 100000 in
/-- One level. -/
theorem open_level {v : Value} {n : Nat} {x : DataW H × List MemPlace} (h : DataW.trod enc Yba.prog W 0 (fun _ => true) true n 26 [v] = some x) :
    ∃ t : Option Addr × Nat × Nat × (Nat → Nat) × (Nat → Nat) × (Nat → Bool), v = .slice t.1 t.2.1 t.2.2.1 ∧ t.2.1 ≤ maxLen ∧
      ∀ j, j < t.2.1 → ∃ b o, t.1 = some ⟨b, o, none⟩ ∧ W.cell? ⟨b, o + j * 3, none⟩ = some (.int .u8 (t.2.2.2.1 j : Nat)) ∧ W.cell? ⟨b, o + j * 3 + 1, none⟩ = some (.int .u8 (t.2.2.2.2.1 j : Nat)) ∧ W.cell? ⟨b, o + j * 3 + 2, none⟩ = some (.bool (t.2.2.2.2.2 j)) ∧ t.2.2.2.1 j < 256 ∧ t.2.2.2.2.1 j < 256 := by
  have k43 : Yba.prog.cellsOf 43 = 3 := by kernel_rfl
  rcases open_slice Yba.underlying26 h with ⟨hcs, _⟩ | ⟨a, len, cap, m, k, D, Pl, hcs, _, hl, hm, hmm, _, hx⟩
  · simp at hcs
    subst hcs
    exact ⟨(none, 0, 0, fun _ => 0, fun _ => 0, fun _ => false), rfl, Nat.zero_le _, fun j hj => absurd hj (Nat.not_lt_zero _)⟩
  · simp at hcs
    subst hcs
    simp only [if_true] at hmm
    subst hmm
    rw [k43] at hx
    have hone : ∀ j, ∃ q : Nat × Nat × Bool, j < len → ∃ b o, a = ⟨b, o, none⟩ ∧ W.cell? ⟨b, o + j * 3, none⟩ = some (.int .u8 (q.1 : Nat)) ∧ W.cell? ⟨b, o + j * 3 + 1, none⟩ = some (.int .u8 (q.2.1 : Nat)) ∧ W.cell? ⟨b, o + j * 3 + 2, none⟩ = some (.bool q.2.2) ∧ q.1 < 256 ∧ q.2.1 < 256 := by
      intro j
      by_cases hj : j < len
      · obtain ⟨cs', h1, h2⟩ := hx j (by omega)
        obtain ⟨b, o, g, d, e, ha, c0, c1, c2, hg, hd⟩ := open_step h1 h2
        obtain ⟨cs0, g1, g2⟩ := hx 0 (by omega)
        obtain ⟨b0, o0, _, _, _, ha0, _⟩ := open_step g1 g2
        obtain ⟨ab, ao, asp⟩ := a
        have hs : asp = none := by
          simp [Addr.add] at ha0
          exact ha0.2.2
        subst hs
        rw [Addr.add_lit] at ha
        obtain ⟨rfl, rfl⟩ : ab = b ∧ ao + j * 3 = o := by simpa using ha
        exact ⟨(g, d, e), fun _ => ⟨ab, ao, rfl, c0, c1, c2, hg, hd⟩⟩
      · exact ⟨(0, 0, false), fun h => absurd h hj⟩
    obtain ⟨f, hf⟩ := Classical.axiomOfChoice hone
    refine ⟨(some a, len, _, fun j => (f j).1, fun j => (f j).2.1, fun j => (f j).2.2), rfl, Nat.le_trans hl hm, fun j hj => ?_⟩
    obtain ⟨b, o, ha, hr⟩ := hf j hj
    exact ⟨b, o, by rw [ha], hr⟩

/-- The levels. -/
theorem open_levels {p : Option Addr} {n0 c0 n : Nat} {x : DataW H × List MemPlace} (h : DataW.trod enc Yba.prog W 0 (fun _ => true) true n 22 [.slice p n0 c0] = some x) :
    n0 ≤ maxLen ∧ ∃ Av Ln Cp G D X, In W p n0 Av Ln Cp G D X := by
  have k26 : Yba.prog.cellsOf 26 = 1 := by kernel_rfl
  rcases open_slice1 Yba.underlying22 k26 h with ⟨hcs, _⟩ | ⟨a, len, cap, m, k, V, D, Pl, hcs, _, hl, hm, hmm, _, hx⟩
  · simp at hcs
    obtain ⟨rfl, rfl, rfl⟩ := hcs
    exact ⟨Nat.zero_le _, fun _ => none, fun _ => 0, fun _ => 0, fun _ _ => 0, fun _ _ => 0, fun _ _ => false, fun i hi => absurd hi (Nat.not_lt_zero _), fun i hi => absurd hi (Nat.not_lt_zero _), fun i hi => absurd hi (Nat.not_lt_zero _)⟩
  · simp at hcs
    obtain ⟨rfl, rfl, rfl⟩ := hcs
    simp only [if_true] at hmm
    subst hmm
    refine ⟨by omega, ?_⟩
    have hone : ∀ i, ∃ t : Option Addr × Nat × Nat × (Nat → Nat) × (Nat → Nat) × (Nat → Bool), i < n0 → V i = .slice t.1 t.2.1 t.2.2.1 ∧ t.2.1 ≤ maxLen ∧
      ∀ j, j < t.2.1 → ∃ b o, t.1 = some ⟨b, o, none⟩ ∧ W.cell? ⟨b, o + j * 3, none⟩ = some (.int .u8 (t.2.2.2.1 j : Nat)) ∧ W.cell? ⟨b, o + j * 3 + 1, none⟩ = some (.int .u8 (t.2.2.2.2.1 j : Nat)) ∧ W.cell? ⟨b, o + j * 3 + 2, none⟩ = some (.bool (t.2.2.2.2.2 j)) ∧ t.2.2.2.1 j < 256 ∧ t.2.2.2.2.1 j < 256 := by
      intro i
      by_cases hi : i < n0
      · obtain ⟨t, ht⟩ := open_level (hx i (by omega)).2
        exact ⟨t, fun _ => ht⟩
      · exact ⟨(none, 0, 0, fun _ => 0, fun _ => 0, fun _ => false), fun h => absurd h hi⟩
    obtain ⟨f, hf⟩ := Classical.axiomOfChoice hone
    refine ⟨fun i => (f i).1, fun i => (f i).2.1, fun i => (f i).2.2.1, fun i => (f i).2.2.2.1, fun i => (f i).2.2.2.2.1, fun i => (f i).2.2.2.2.2, fun i hi => ?_, fun i hi => (hf i hi).2.1, fun i hi j hj => (hf i hi).2.2 j hj⟩
    have hcell := (hx i (by omega)).1
    obtain ⟨ab, ao, asp⟩ := a
    have hs : asp = none := by
      have := World.cell?_spot (hx 0 (by omega)).1
      simpa [Addr.add] using this
    subst hs
    rw [Addr.add_lit, (hf i hi).1] at hcell
    exact ⟨ab, ao, rfl, hcell⟩

end Go.Proofs.Ybulkafaa
