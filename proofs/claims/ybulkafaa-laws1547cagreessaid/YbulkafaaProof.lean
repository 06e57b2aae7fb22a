/-
  'Rows.LawS1547CAgreesSaid': the row's frame round the walk.
-/
import Derived.Test.YbulkafaaOpen
import Derived.Test.YbulkafaaLaw
import Derived.WalkKit
namespace Go.Proofs.Ybulkafaa
open Go.ChangeShapes Go.WideShapes Go.ChangeAt Go.RowKit
set_option linter.unusedVariables false

theorem own : ownKnob Yba.prog.godebug = none := by kernel_rfl
theorem laidOut : laidOutB Yba.prog = true := by kernel_rfl
set_option maxRecDepth 100000 in
theorem walk_big (out0 st ln : Int) (rx : Bool) (p : Option Addr) (n0 c0 : Nat) (w : World) (hn : 1024 < n0) :
    Calls Yba.prog 3 #[.int .u8 out0, .slice p n0 c0, .agg #[.int .u16 st, .int .u8 ln, .bool rx]] w fun e w' => e = .returned (.bool true) ∧ Below w.heap.size w w' := by
  have hn' : decide ((1024 : Int) < (n0 : Int)) = true := by simp; omega
  go_enter Yba.func3, Yba.ntmps3
  go_wp2
  go_ret
  exact ⟨rfl, (Below.refl _ _).alloc (Nat.le_refl _) _⟩

theorem walk (out0 st ln : Int) (rx : Bool) (p : Option Addr) (n0 c0 : Nat) (w : World) (w0 : (Lit.int .u8 out0).wf = true) (w1 : (Lit.int .u16 st).wf = true) (w2 : (Lit.int .u8 ln).wf = true)
    (hI : ∃ Av Ln Cp G D X, In w p n0 Av Ln Cp G D X) :
    Calls Yba.prog 3 #[.int .u8 out0, .slice p n0 c0, .agg #[.int .u16 st, .int .u8 ln, .bool rx]] w fun e w' => e = .returned (.bool true) ∧ Below w.heap.size w w' := by
  have b0 : 0 ≤ out0 ∧ out0 ≤ 255 := by simpa [Lit.wf, IntKind.min, IntKind.max, IntKind.signed, IntKind.bits] using w0
  have b1 : 0 ≤ st ∧ st ≤ 65535 := by simpa [Lit.wf, IntKind.min, IntKind.max, IntKind.signed, IntKind.bits] using w1
  have b2 : 0 ≤ ln ∧ ln ≤ 255 := by simpa [Lit.wf, IntKind.min, IntKind.max, IntKind.signed, IntKind.bits] using w2
  obtain ⟨Av, Ln, Cp, G, D, X, hI⟩ := hI
  by_cases hb : 1024 < n0
  · exact walk_big out0 st ln rx p n0 c0 w hb
  · exact walk_small out0 st ln rx p n0 c0 Av Ln Cp G D X w (by omega) b0.1 b0.2 b1.1 b1.2 b2.1 b2.2 hI

set_option maxRecDepth 100000 in
theorem lifted (os : Os) (started : os.Started) (H : Type) (enc : TypeId × Value → H) :
    ReturnsInHanded {} Yba.checked os 3 .any (Rows.lawS1547CAgreesSpec.pre6 enc Yba.prog Yba.f3 Rows.lawS1547CAgreesRow.domain false) (Rows.lawS1547CAgreesSpec.post enc Yba.prog Yba.f3 false true false false) := by
  refine returnsInHanded_of_change (C := Yba.checked) own started (by kernel_rfl) Yba.func3
    (ChangeSpec.witness6 (enc := enc) (C := Yba.checked) false ⟨#[], #[.int .u8 0, .slice none 0 0, .agg #[.int .u16 0, .int .u8 0, .bool false]], []⟩ 8 (by kernel_rfl) (by kernel_rfl) (by kernel_rfl) (by kernel_rfl)) ?_
  intro W base args ds gs before hval0 hW hcnd _
  have hval : ∀ (j : Nat) t v, Yba.f3.params[j]? = some t → args[j]? = some v → Value.okWide Yba.prog W .any base t v := hval0
  have hW' := hW
  obtain ⟨p, q, hA0, hV, rfl, hfz, hnd⟩ := hW
  have hA : DataW.TrodAll enc Yba.prog W 0 (fun _ => true) true Yba.f3.params.toList args.toList ds p := hA0
  rw [Yba.params3] at hA hval
  obtain ⟨v0, vs0, d0, ds0, p0, q0, hargs, rfl, rfl, h0, r0⟩ := trodAll_cons hA
  obtain ⟨v1, vs1, d1, ds1, p1, q1, rfl, rfl, rfl, h1, r1⟩ := trodAll_cons r0
  obtain ⟨v2, vs2, d2, ds2, p2, q2, rfl, rfl, rfl, h2, r2⟩ := trodAll_cons r1
  obtain ⟨rfl, rfl, rfl⟩ := trodAll_nil r2
  obtain rfl : args = #[v0, v1, v2] := by cases args; simp_all
  obtain ⟨rfl, rfl⟩ := trodVars_none hV
  obtain ⟨a0, rfl, rfl, rfl, w0⟩ := open_int Yba.underlying5 (hval 0 5 v0 rfl rfl) h0
  obtain ⟨a1, len1, cap1, rfl⟩ := okWide_slice Yba.underlying22 (hval 1 22 v1 rfl rfl)
  have k1 := h1
  have lt1 : ∀ x ∈ p1, x.block < W.heap.size := by obtain ⟨m, hm⟩ := k1; exact DataW.trod_lt m _ _ _ hm
  have hI : len1 ≤ maxLen ∧ ∃ Av Ln Cp G D X, In W a1 len1 Av Ln Cp G D X := by
    obtain ⟨fuel, hf⟩ := h1
    exact open_levels (by simpa [Value.cells] using hf)
  have k2 := h2
  have lt2 : ∀ x ∈ p2, x.block < W.heap.size := by obtain ⟨m, hm⟩ := k2; exact DataW.trod_lt m _ _ _ hm
  obtain ⟨u0, u1, u2, y0, y1, y2, n, rfl, rfl, rfl, t0, t1, t2⟩ := Go.Joins.open_agg3 Yba.underlying25 (by kernel_rfl) (by kernel_rfl) (hval 2 25 v2 rfl rfl) h2
  obtain ⟨z0, e0, _, s0⟩ := DataW.trod_int Yba.underlying23 t0
  obtain ⟨z1, e1, _, s1⟩ := DataW.trod_int Yba.underlying5 t1
  obtain ⟨z2, e2, _⟩ := DataW.trod_bool Yba.underlying4 t2
  simp at e0 e1 e2
  subst e0; subst e1; subst e2
  clear hA0 hval0
  refine (walk a0 z0 z1 z2 a1 len1 cap1 W w0 s0 s1 hI.2).mono fun e W' ⟨he, bel⟩ => ?_
  subst he
  exact ⟨_, rfl, _, _, _, [], _, [], hW', trodAll_mk1 (shut_bool Yba.underlying4 _), (trodAll_cons_mk (shut_int Yba.underlying5 w0) (trodAll_cons_mk (Below.trod laidOut (by kernel_rfl) (of_decide_eq_true (by kernel_rfl)) k1 bel lt1) (trodAll_cons_mk (Below.trod laidOut (by kernel_rfl) (of_decide_eq_true (by kernel_rfl)) k2 bel lt2) trodAll_mk0))), rfl, bel.frame _, fun h => by cases h⟩

/-- The statement. -/
theorem proved : Rows.LawS1547CAgreesSaid :=
  OpenClaim.holds_of_wide 3 Yba.f3 rfl rfl rfl rfl rfl rfl rfl ⟨rfl, rfl, rfl, rfl, rfl⟩ rfl rfl rfl rfl rfl (by kernel_rfl) Yba.func3 (by kernel_rfl)
    (of_decide_eq_true (by kernel_rfl)) (by unfold Func.isWrapper; first | (rw [if_pos (by decide +kernel)]; kernel_rfl) | (rw [if_neg (by decide +kernel)]; exact ⟨rfl, rfl⟩))
    (fun os started H enc _ => lifted os started H enc)

end Go.Proofs.Ybulkafaa
