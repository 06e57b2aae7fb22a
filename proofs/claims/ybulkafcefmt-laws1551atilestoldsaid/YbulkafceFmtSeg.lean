/-
  A segment appended.
-/
import Derived.Test.YbulkafceFmtMin
import Derived.Test.YbulkafceFmtApp6
namespace Go.Proofs.YbulkafceFmt
open Go.RowKit

def flat (S : Nat → En) (sz : Nat) : List Value := (List.range (sz * 6)).map fun q => fld (S (q / 6)) (q % 6)
def six (e : En) : List Value := [fld e 0, fld e 1, fld e 2, fld e 3, fld e 4, fld e 5]

theorem flat_length (S : Nat → En) (sz : Nat) : (flat S sz).length = sz * 6 := by simp [flat]
theorem flat_at (S : Nat → En) (sz q : Nat) (h : q < sz * 6) : (flat S sz)[q]? = some (fld (S (q / 6)) (q % 6)) := by simp [flat, h]
theorem six_at (e : En) (k : Nat) (h : k < 6) : (six e)[k]? = some (fld e k) := by
  match k, h with
  | 0, _ => rfl
  | 1, _ => rfl
  | 2, _ => rfl
  | 3, _ => rfl
  | 4, _ => rfl
  | 5, _ => rfl
theorem six_one (e : En) : ∀ u ∈ six e, u.oneCell' = true := by
  intro u hu
  simp [six] at hu
  rcases hu with rfl | rfl | rfl | rfl | rfl | rfl <;> rfl

section
variable {B rb sb scap ob ocap oN : Nat} {R : Nat → Value} {S : Nat → En} {sz : Nat} {O : Nat → Option Nat} {j : Nat}

theorem FM.own {w : World} (h : FM w B rb sb scap ob ocap oN R S sz O j) : w.ownsRow B 56 6 (.slice (some ⟨sb, 0, none⟩) sz scap) sz (flat S sz) := by
  obtain ⟨cs, hb, hs, hc⟩ := h.seg
  have hle : sz * 6 ≤ scap * 6 := Nat.mul_le_mul_right _ h.szc
  refine ⟨flat_length S sz, .inr ⟨sb, scap, cs, rfl, h.Bb.2.1, hb, h.szc, h.scm, hs, ?_⟩⟩
  refine List.ext_getElem? fun q => ?_
  by_cases hq : q < sz * 6
  · rw [List.getElem?_take, if_pos hq, flat_at S sz q hq, Array.getElem?_toList, hc q hq]
  · rw [List.getElem?_eq_none (by simp; omega), List.getElem?_eq_none (by rw [flat_length]; omega)]

theorem FM.appSeg {W w1 : World} {v' : Value} (h : FM W B rb sb scap ob ocap oN R S sz O j) (e : En) (hown : w1.ownsRow B 56 6 v' (sz + 1) (flat S sz ++ six e)) (hg : W.grownBy w1 (some sb)) :
    ∃ sb' scap', v' = .slice (some ⟨sb', 0, none⟩) (sz + 1) scap' ∧ FM (w1.setCell ⟨rb, 17, none⟩ v') B rb sb' scap' ob ocap oN R (upd S sz e) (sz + 1) O j ∧ Below B W (w1.setCell ⟨rb, 17, none⟩ v') := by
  obtain ⟨n1, n2, n3⟩ := h.ne
  rcases hown.2 with ⟨_, h0⟩ | ⟨g, cap, cur, rfl, hBg, hgr, hnc, hcm, hcs, htake⟩
  · omega
  refine ⟨g, cap, rfl, ?_, ?_⟩
  · have kr : w1.heap[rb]? = W.heap[rb]? := hg.block rb h.room.lt (fun e => n1 (Option.some.inj e))
    have ko : w1.heap[ob]? = W.heap[ob]? := hg.block ob h.opn.lt (fun e => n3 (Option.some.inj e).symm)
    have hroom1 := h.room.keep kr
    have hsegr : Rw w1 g 56 (cap * 6) (fun q => q < (sz + 1) * 6) (fun q => fld (upd S sz e (q / 6)) (q % 6)) := by
      refine ⟨cur, hgr, hcs, fun q hq => ?_⟩
      have hlt : q < (sz + 1) * 6 := hq
      have h1 : (cur.toList.take ((sz + 1) * 6))[q]? = cur[q]? := by rw [List.getElem?_take, if_pos hlt, Array.getElem?_toList]
      rw [← h1, htake]
      by_cases hq2 : q < sz * 6
      · rw [List.getElem?_append_left (by rw [flat_length]; exact hq2), flat_at S sz q hq2]
        show _ = some (fld (upd S sz e (q / 6)) (q % 6))
        rw [upd_ne _ _ (show q / 6 ≠ sz by omega)]
      · rw [List.getElem?_append_right (by rw [flat_length]; omega), flat_length, six_at e _ (by omega)]
        show _ = some (fld (upd S sz e (q / 6)) (q % 6))
        rw [show q / 6 = sz by omega, upd_self, show q % 6 = q - sz * 6 by omega]
    have hrg : rb ≠ g := hroom1.ne hsegr (by decide)
    refine ⟨(hroom1.set (l := 17) ⟨by omega, by omega⟩ _).congr fun k hk => ?_, hsegr.setOther hrg.symm _, (h.opn.keep ko).setOther n2.symm _, fun x hx => own_keep (h.inner x hx) fun b hb => ?_, h.apart, hnc, hcm, h.joc, ⟨h.Bb.1, hBg, h.Bb.2.2⟩⟩
    · obtain ⟨hk1, hk2⟩ := hk
      rcases (show k = 17 ∨ k = 18 ∨ k = 19 ∨ k = 20 by omega) with rfl | rfl | rfl | rfl
      · rw [upd_self]; rfl
      · rw [upd_ne _ _ (by omega)]; rfl
      · rw [upd_ne _ _ (by omega)]; rfl
      · rw [upd_ne _ _ (by omega)]; rfl
    · obtain ⟨m1, m2, m3⟩ := h.neInner hx hb
      rw [Below.heap_setCell _ _ _ _ m1]
      obtain ⟨cur', hc'⟩ := own_row (h.inner x hx) hb
      exact hg.block b (lt_heap hc') (fun e => m2 (Option.some.inj e))
  · have hBW : B ≤ W.heap.size := by have := h.Bb.1; have := h.room.lt; omega
    exact ((Below.refl B W).grown hg hBW (fun k hk => by cases hk; exact h.Bb.2.1)).setCell h.Bb.1 _
end

end Go.Proofs.YbulkafceFmt
