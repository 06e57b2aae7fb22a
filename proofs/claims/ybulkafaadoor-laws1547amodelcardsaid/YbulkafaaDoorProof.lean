/-
  LawS1547AModel: the row, and the tied card.
-/
import Derived.Test.YbulkafaaDoorLaw
import Derived.Test.YbulkafaaDoorTie
import Derived.Test.YbulkafaaDoorCards
import Derived.ProofKit
import Derived.OpenShut
import Derived.ShutString
import Derived.ChangeOld
import Derived.Below
import Derived.LaidMore
import Derived.Lib.LaidTab
import Derived.Deep.SlicePairs
import Derived.Stop.Joined
import Derived.SevenTiedAt
namespace Go.Proofs.YbulkafaaDoor
open Go.ChangeShapes Go.WideShapes Go.ChangeAt Go.RowKit Go.Deep
set_option linter.unusedVariables false

theorem own : ownKnob Ybad.prog.godebug = none := by kernel_rfl
theorem laidOut : laidOutB Ybad.prog = true := by kernel_rfl

theorem door_met (os : Os) (args : Array Value) : laidMetH Ybad.prog Rows.lawS1547AModelRow.laid ((World.doorLaid Ybad.prog 400 os).forCall (fun _ _ => 0) ⟨#[], args, []⟩).memory :=
  laidMetH_of_parts3 (fuel := 8) (laidMet_of_run' 8 (by kernel_rfl) (by kernel_rfl)) (by kernel_rfl) (by kernel_rfl)

/-- The name of the table: the first that the row names. -/
def tabName : String := Rows.lawS1547AModelRow.named.getD 0 ""
theorem gTab : Ybad.prog.globalNamed tabName = some 0 := by kernel_rfl
theorem tTab : (Ybad.prog.globals[0]?).map (·.type) = some 39 := by kernel_rfl
theorem cTab : Ybad.prog.cellsOf 39 = 64 := by kernel_rfl
theorem c5 : Ybad.prog.cellsOf 5 = 1 := by kernel_rfl

theorem tab_laid {H : Type} : (Rows.laid_math_bits_deBruijn64tab : DataW H) = Lib.tabData .u8 (Lib.deBruijn64tab.map fun (n : Nat) => (n : Int)) := rfl

/-- The listed table reads as it is laid. -/
theorem of_laid {W : World} (h : laidMetH Ybad.prog Rows.lawS1547AModelRow.laid W) : TabAt 0 Lib.deBruijn64tab W := by
  rw [MakeChecks.laidMetH_plain _ _ _ (by kernel_rfl)] at h
  obtain ⟨ps, ⟨g2, t2, cs2, f2, p2, q2, hg2, ht2, hv2, hd2, _, _⟩, _, _⟩ := h
  obtain rfl := Option.some.inj (gTab.symm.trans hg2)
  obtain rfl := Option.some.inj (tTab.symm.trans ht2)
  rw [tab_laid] at hd2
  have hc := Lib.cells_of_tab Ybad.underlying39 Ybad.underlying5 c5 cTab hd2
  intro j hj
  have := World.var?_cell hg2 hv2 j
  rw [this, ← Array.getElem?_toList, hc]
  simp [hj]

/-- What is known of a slice of steps that came in. -/
structure IsSteps (w : World) (p : Option Addr) (ln cp : Nat) (b o : Nat) (A B : Nat → Int) : Prop where
  len : ln ≤ maxLen
  form : 0 < ln → p = some ⟨b, o, none⟩
  cells : ∀ i, i < ln → w.cell? ⟨b, o + i * 2, none⟩ = some (.int .u8 (A i)) ∧ w.cell? ⟨b, o + i * 2 + 1, none⟩ = some (.int .u16 (B i)) ∧ 0 ≤ A i ∧ A i ≤ 255 ∧ 0 ≤ B i ∧ B i ≤ 65535

theorem walk (n scale : Int) (p : Option Addr) (ln cp b o : Nat) (A B : Nat → Int) (w : World) (w0 : (Lit.int .u16 n).wf = true) (w1 : (Lit.int .u8 scale).wf = true) (h : IsSteps w p ln cp b o A B) (hT : TabAt 0 Lib.deBruijn64tab w) :
    Calls Ybad.prog 3 #[.int .u16 n, .int .u8 scale, .slice p ln cp] w fun e w' => e = .returned (.bool true) ∧ Below w.heap.size w w' := by
  have hn : 0 ≤ n ∧ n ≤ 65535 := by simpa [Lit.wf, IntKind.min, IntKind.max, IntKind.signed, IntKind.bits] using w0
  have hs : 0 ≤ scale ∧ scale ≤ 255 := by simpa [Lit.wf, IntKind.min, IntKind.max, IntKind.signed, IntKind.bits] using w1
  by_cases hb : 1024 < ln
  · exact walk_big n scale p ln cp w hb h.len
  · exact walk_small n scale p b o ln cp A B w hn.1 hn.2 hs.1 hs.2 (by omega) h.form h.cells hT

theorem open_steps {H : Type} {enc : TypeId × Value → H} {W : World} {p : Option Addr} {ln cp fuel : Nat} {x : DataW H × List MemPlace} (h : DataW.trod enc Ybad.prog W 0 (fun _ => true) true fuel 23 [.slice p ln cp] = some x) :
    ∃ b o A B, IsSteps W p ln cp b o A B := by
  rcases open_slice_pairs Ybad.underlying23 Ybad.underlying30 (by kernel_rfl) rfl rfl (by kernel_rfl) (by kernel_rfl) h with ⟨hcs, _⟩ | ⟨a, len, cap, m, n, V0, V1, D0, D1, P0, P1, hcs, _, hl, hm, hmm, _, hc⟩
  · simp at hcs
    obtain ⟨rfl, rfl, rfl⟩ := hcs
    exact ⟨0, 0, fun _ => 0, fun _ => 0, Nat.zero_le _, fun h => by omega, fun i hi => by omega⟩
  · simp at hcs
    obtain ⟨rfl, rfl, rfl⟩ := hcs
    simp only [if_true] at hmm
    subst hmm
    obtain ⟨b, o, spot⟩ := a
    by_cases h0 : 0 < ln
    · have hspot : spot = none := by
        have := (hc 0 (by omega)).1
        simpa [Addr.add] using World.cell?_spot this
      subst hspot
      refine ⟨b, o, fun i => intOf (V0 i), fun i => intOf (V1 i), by omega, fun _ => rfl, fun i hi => ?_⟩
      obtain ⟨h1, h2, t1, t2⟩ := hc i (by omega)
      obtain ⟨z1, e1, _, wz1⟩ := DataW.trod_int Ybad.underlying5 t1
      obtain ⟨z2, e2, _, wz2⟩ := DataW.trod_int Ybad.underlying22 t2
      have e1' : V0 i = .int .u8 z1 := by simpa using e1
      have e2' : V1 i = .int .u16 z2 := by simpa using e2
      have b1 : 0 ≤ z1 ∧ z1 ≤ 255 := by simpa [Lit.wf, IntKind.min, IntKind.max, IntKind.signed, IntKind.bits] using wz1
      have b2 : 0 ≤ z2 ∧ z2 ≤ 65535 := by simpa [Lit.wf, IntKind.min, IntKind.max, IntKind.signed, IntKind.bits] using wz2
      rw [Addr.add_lit] at h1 h2
      rw [e1'] at h1
      rw [e2'] at h2
      simp only [e1', e2', intOf]
      exact ⟨h1, by rw [← Nat.add_assoc] at h2; exact h2, b1.1, b1.2, b2.1, b2.2⟩
    · exact ⟨0, 0, fun _ => 0, fun _ => 0, by omega, fun h => absurd h h0, fun i hi => by omega⟩

set_option maxRecDepth 100000 in
theorem lifted (os : Os) (started : os.Started) (H : Type) (enc : TypeId × Value → H) :
    ReturnsInHanded {} Ybad.checked os 3 .any (fun w args => (Rows.lawS1547AModelSpec.pre enc Ybad.prog Ybad.f3 [] false w args ∧ laidMetH Ybad.prog Rows.lawS1547AModelRow.laid w) ∧ sizedMet enc Ybad.prog Ybad.f3 (OpenSpec.ofChange Rows.lawS1547AModelSpec) false w args)
      (Rows.lawS1547AModelSpec.post enc Ybad.prog Ybad.f3 false true false false) := by
  refine returnsInHanded_of_change_and (C := Ybad.checked) (X := fun w _ => laidMetH Ybad.prog Rows.lawS1547AModelRow.laid w) (fun _ _ _ hh h => h.of_heap hh) own started (by kernel_rfl) Ybad.func3
    (ChangeSpec.witness_shaped (enc := enc) (C := Ybad.checked) (os := os) (X := fun w _ => laidMetH Ybad.prog Rows.lawS1547AModelRow.laid w) false (World.doorLaid Ybad.prog 400 os) #[.int .u16 0, .int .u8 0, .slice none 0 0] 8 rfl (World.shaped_of_RefB (by kernel_rfl) (by kernel_rfl)) (by kernel_rfl) (by kernel_rfl) (by kernel_rfl) (door_met os _)) ?_
  intro W base args ds gs before hval0 hW _ _ hL _
  have hval : ∀ (j : Nat) t v, Ybad.f3.params[j]? = some t → args[j]? = some v → Value.okWide Ybad.prog W .any base t v := hval0
  have hW' := hW
  obtain ⟨p, q, hA0, hV, rfl, hfz, hnd⟩ := hW
  have hA : DataW.TrodAll enc Ybad.prog W 0 (fun _ => true) true Ybad.f3.params.toList args.toList ds p := hA0
  rw [Ybad.params3] at hA hval
  obtain ⟨v0, vs0, d0, ds0, p0, q0, hargs, rfl, rfl, h0, r0⟩ := trodAll_cons hA
  obtain ⟨v1, vs1, d1, ds1, p1, q1, rfl, rfl, rfl, h1, r1⟩ := trodAll_cons r0
  obtain ⟨v2, vs2, d2, ds2, p2, q2, rfl, rfl, rfl, h2, r2⟩ := trodAll_cons r1
  obtain ⟨rfl, rfl, rfl⟩ := trodAll_nil r2
  obtain rfl : args = #[v0, v1, v2] := by cases args; simp_all
  obtain ⟨rfl, rfl⟩ := trodVars_none hV
  obtain ⟨a0, rfl, rfl, rfl, w0⟩ := open_int Ybad.underlying22 (hval 0 22 v0 rfl rfl) h0
  obtain ⟨a1, rfl, rfl, rfl, w1⟩ := open_int Ybad.underlying5 (hval 1 5 v1 rfl rfl) h1
  obtain ⟨a2, len2, cap2, rfl⟩ := okWide_slice Ybad.underlying23 (hval 2 23 v2 rfl rfl)
  have k2 := h2
  have lt2 : ∀ x ∈ p2, x.block < W.heap.size := by obtain ⟨m, hm⟩ := k2; exact DataW.trod_lt m _ _ _ hm
  obtain ⟨b, o, A, B, hst⟩ : ∃ b o A B, IsSteps W a2 len2 cap2 b o A B := by
    obtain ⟨fuel, hf⟩ := h2
    exact open_steps (by simpa [Value.cells] using hf)
  clear hA0 hval0
  refine (walk a0 a1 a2 len2 cap2 b o A B W w0 w1 hst (of_laid hL)).mono fun e W' ⟨he, bel⟩ => ?_
  subst he
  exact ⟨_, rfl, _, _, _, [], _, [], hW', trodAll_mk1 (shut_bool Ybad.underlying4 _), (trodAll_cons_mk (shut_int Ybad.underlying22 w0) (trodAll_cons_mk (shut_int Ybad.underlying5 w1) (trodAll_cons_mk (Below.trod laidOut (by kernel_rfl) (of_decide_eq_true (by kernel_rfl)) k2 bel lt2) trodAll_mk0))), rfl, bel.frame _, fun h => by cases h⟩

theorem row_holds : Rows.LawS1547AModelSaid :=
  OpenClaim.holds_of_wide 3 Ybad.f3 rfl rfl rfl rfl rfl rfl rfl ⟨rfl, rfl, rfl, rfl, rfl⟩ rfl rfl rfl rfl rfl (by kernel_rfl) Ybad.func3 (by kernel_rfl)
    (of_decide_eq_true (by kernel_rfl)) (by unfold Func.isWrapper; first | (rw [if_pos (by decide +kernel)]; kernel_rfl) | (rw [if_neg (by decide +kernel)]; exact ⟨rfl, rfl⟩))
    (fun os started H enc _ => lifted os started H enc)

theorem proved : Rows.LawS1547AModelCardSaid :=
  Claim7.holds_tied_plain_at .later [] [.data] true Rows.lawS1547AModelCard.stood.harness false
    row_holds (fun _ h => by cases h) (by kernel_rfl) (fun _ h => by cases h) lawS1547AModel_row_tie rfl ⟨rfl, rfl⟩ (by kernel_rfl) rfl
    (fun f fn hf hfn => by
      obtain rfl : f = 3 := Option.some.inj ((show Ybad.prog.funcNamed Rows.lawS1547AModelRow.func = some 3 by kernel_rfl).symm.trans hf) |>.symm
      obtain rfl : fn = Ybad.f3 := (Option.some.inj (Ybad.func3.symm.trans hfn)).symm
      exact ⟨by kernel_rfl, fun j t ht => by
        rw [Ybad.params3] at ht
        have hm : t ∈ [22, 5, 23] := by simpa using Array.mem_of_getElem? ht
        have hall : ([22, 5, 23].all fun u => !Ybad.prog.wantsStandIn u) = true := by kernel_rfl
        exact (show Ybad.prog.wantsStandIn t = false by simpa using List.all_eq_true.1 hall t hm)⟩)
    (by kernel_rfl)
#print axioms proved
end Go.Proofs.YbulkafaaDoor
