/-
  parseRecord, walked.
-/
import Derived.Test.YbulkafaoFmtRec
import Derived.Shelf.Bin.ReadersZ
namespace Go.Proofs.YbulkafaoFmt
open Go.RowKit

set_option maxRecDepth 100000 in
theorem parse_none (g c : Nat) (w : World) (h0 : w.cell? ⟨g, 0, none⟩ = some (.int .u8 0)) :
    Calls Ybaf.prog 6 #[.slice (some ⟨g, 0, none⟩) 1 c] w fun e w' => e = .returned (.tuple #[.pointer none, .nilIface]) ∧ w' = w := by
  go_enter Ybaf.func6, Ybaf.ntmps6
  go_wp2
  go_ret2
  exact ⟨rfl, rfl⟩

theorem be_wf (v : Nat) (hv : v < 18446744073709551616) : ∀ z ∈ be v, (Lit.int .u8 z).wf = true := by
  intro z hz
  have hb : 0 ≤ z ∧ z ≤ 255 := by
    simp [be] at hz
    omega
  simp [Lit.wf, IntKind.min, IntKind.max, IntKind.signed, IntKind.bits]
  omega

theorem be_back (v : Nat) : Lib.beZ ((be v).take 8) = (v : Int) := by
  simp [be, Lib.beZ, Lib.beFromZ]
  omega

theorem rec_cells {w : World} {g ver : Nat} {ys : List Int} (hcell : ∀ j u, (bs ([1] ++ be ver ++ ys))[j]? = some u → w.cell? ⟨g, j, none⟩ = some u) :
    (w.cell? ⟨g, 0, none⟩ = some (.int .u8 1)) ∧ (∀ i, i < (be ver).length → w.cell? ((⟨g, 1, none⟩ : Addr).add i) = some (.int .u8 ((be ver).getD i 0))) ∧ (∀ i, i < ys.length → w.cell? ((⟨g, 9, none⟩ : Addr).add i) = some (.int .u8 (ys.getD i 0))) := by
  refine ⟨hcell 0 _ (by simp [bs]), ?_, ?_⟩
  · intro i hi
    rw [add_plain]
    refine hcell (1 + i) _ ?_
    simp only [bs, List.getElem?_map, List.append_assoc]
    rw [List.getElem?_append_right (by simp), List.getElem?_append_left (by simp; omega)]
    simp [List.getD, hi]
  · intro i hi
    rw [add_plain]
    refine hcell (9 + i) _ ?_
    simp only [bs, List.getElem?_map]
    rw [List.getElem?_append_right (by simp [be])]
    simp [be, List.getD]
    simp [hi]

set_option maxRecDepth 100000 in
theorem parse_held (g c m ver : Nat) (ys : List Int) (w : World) (hm : m ≤ 1024) (hver : ver < 18446744073709551616) (hc : 9 + m ≤ c) (hc9 : ¬ c = 9) (hlen : ys.length = m)
    (hcell : ∀ j u, (bs ([1] ++ be ver ++ ys))[j]? = some u → w.cell? ⟨g, j, none⟩ = some u) :
    Calls Ybaf.prog 6 #[.slice (some ⟨g, 0, none⟩) (9 + m) c] w fun e w' => ∃ pb q d, e = .returned (.tuple #[.pointer (some ⟨pb, 0, none⟩), .nilIface]) ∧ w'.cell? ⟨pb, 0, none⟩ = some (.int .u64 ver) ∧ w'.cell? ⟨pb, 1, none⟩ = some (.slice q m d) ∧ Lib.BytesIn w' q m ys ∧ Below w.heap.size w w' := by
  have mixed := mixed
  obtain ⟨c0, ca, cy⟩ := rec_cells hcell
  clear hcell
  have l1 : ¬ ((9 : Int) + (m : Int) = 1) := by omega
  have l2 : (9 : Int) ≤ 9 + (m : Int) := by omega
  have l3 : (9 : Int) + (m : Int) ≤ 65545 := by omega
  have l4 : (1 : Int) ≤ 9 + (m : Int) := by omega
  have l5 : ¬ c = 1 := by omega
  have hu := Any.binary_BE_Uint64_z Ybaf.laysBin42 ⟨g, 1, none⟩ (8 + m) (c - 1) (be ver) w.drew (by omega) (by simp [be]) ca (be_wf ver hver)
  rw [be_back ver] at hu
  have cy' : ∀ W, Below w.heap.size w W → Lib.BytesIn W (some ⟨g, 9, none⟩) m ys := fun W hW => Lib.BytesIn.of_cells fun i hi => cell_kept hW (Nat.le_refl _) (cy i (by omega))
  have HY : Hid (∀ W, Below w.heap.size w W → Lib.BytesIn W (some ⟨g, 9, none⟩) m ys) := cy'
  clear ca cy cy'
  go_enter Ybaf.func6, Ybaf.ntmps6
  go_upto_region 4 with (fail)
  go_region_with (go_at_call 9; refine hu.mono ?_; rintro e w' ⟨rfl, hb⟩)
  all_goals
    have hbw : Below w.heap.size w w' := (Below.refl _ _).drew.trans hb
    have hbf := fun o => hbw.alloc hbw.size o
    have HF : Hid (∀ o, Below w.heap.size w (w'.alloc o)) := hbf
    clear hbf hbw hb hu
    have e0 : ∀ a b c d e, (w'.alloc (.cells #[a, b, c, d, e] 28)).cell? ⟨w'.heap.size, 0, none⟩ = some a := by intros; simp
    have e1 : ∀ a b c d e, (w'.alloc (.cells #[a, b, c, d, e] 28)).cell? ⟨w'.heap.size, 1, none⟩ = some b := by intros; simp
    go_wp2
    go_ret2
    exact ⟨w'.heap.size, _, _, rfl, e0 _ _ _ _ _, e1 _ _ _ _ _, HY.out _ (HF.out _), HF.out _⟩

set_option maxRecDepth 100000 in
theorem parse_short (g ver : Nat) (ys : List Int) (w : World) (hver : ver < 18446744073709551616)
    (hcell : ∀ j u, (bs ([1] ++ be ver ++ ys))[j]? = some u → w.cell? ⟨g, j, none⟩ = some u) :
    Calls Ybaf.prog 6 #[.slice (some ⟨g, 0, none⟩) 9 9] w fun e w' => ∃ pb q d, e = .returned (.tuple #[.pointer (some ⟨pb, 0, none⟩), .nilIface]) ∧ w'.cell? ⟨pb, 0, none⟩ = some (.int .u64 ver) ∧ w'.cell? ⟨pb, 1, none⟩ = some (.slice q 0 d) ∧ Lib.BytesIn w' q 0 ys ∧ Below w.heap.size w w' := by
  have mixed := mixed
  obtain ⟨c0, ca, cy⟩ := rec_cells hcell
  clear hcell
  have hu := Any.binary_BE_Uint64_z Ybaf.laysBin42 ⟨g, 1, none⟩ 8 8 (be ver) w.drew (by decide) (by simp [be]) ca (be_wf ver hver)
  rw [be_back ver] at hu
  clear ca cy
  go_enter Ybaf.func6, Ybaf.ntmps6
  go_upto_region 4 with (fail)
  go_region_with (go_at_call 9; refine hu.mono ?_; rintro e w' ⟨rfl, hb⟩)
  all_goals
    have hbw : Below w.heap.size w w' := (Below.refl _ _).drew.trans hb
    have hbf := fun o => hbw.alloc hbw.size o
    have HF : Hid (∀ o, Below w.heap.size w (w'.alloc o)) := hbf
    clear hbf hbw hb hu
    have e0 : ∀ a b c d e, (w'.alloc (.cells #[a, b, c, d, e] 28)).cell? ⟨w'.heap.size, 0, none⟩ = some a := by intros; simp
    have e1 : ∀ a b c d e, (w'.alloc (.cells #[a, b, c, d, e] 28)).cell? ⟨w'.heap.size, 1, none⟩ = some b := by intros; simp
    go_wp2
    go_ret2
    exact ⟨w'.heap.size, _, _, rfl, e0 _ _ _ _ _, e1 _ _ _ _ _, Lib.BytesIn.nil _ _ _, HF.out _⟩

end Go.Proofs.YbulkafaoFmt
