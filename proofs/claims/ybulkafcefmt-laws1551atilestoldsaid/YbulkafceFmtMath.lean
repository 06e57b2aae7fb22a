/-
  BUDDY's frontier, in plain words: depths of heights.
-/
import Derived.Test.YbulkafceFmtRows
import Derived.Lib.TrailingZeros
import Derived.Lib.BitFns
namespace Go.Proofs.YbulkafceFmt

/-- The depth of a height: j less the times 2 divides it. -/
def dep (j h : Nat) : Nat := if h = 0 then 0 else j - Lib.ctz 64 h

theorem dep_all : ((List.range 7).all fun j => (List.range 65).all fun h => (List.range 7).all fun x => !(decide (h ≤ 2 ^ j) && decide (x ≤ j)) || (decide (dep j h ≤ x) == decide (h % 2 ^ (j - x) = 0))) = true := by
  decide +kernel

theorem dep_tab (j : Nat) (hj : j < 7) (h : Nat) (hh : h < 65) (x : Nat) (hx : x < 7) (h1 : h ≤ 2 ^ j) (h2 : x ≤ j) : dep j h ≤ x ↔ h % 2 ^ (j - x) = 0 := by
  have a := List.all_eq_true.1 dep_all j (List.mem_range.2 hj)
  have b := List.all_eq_true.1 a h (List.mem_range.2 hh)
  have c := List.all_eq_true.1 b x (List.mem_range.2 hx)
  simp only [h1, h2, decide_true, Bool.and_self, Bool.not_true, Bool.false_or, beq_iff_eq] at c
  exact decide_eq_decide.1 c

theorem dep_le_j {j h : Nat} : dep j h ≤ j := by
  unfold dep
  split <;> omega

theorem dep_iff {j h x : Nat} (hj : j < 7) (hh : h ≤ 2 ^ j) (hx : x ≤ j) : dep j h ≤ x ↔ 2 ^ (j - x) ∣ h := by
  have h64 : (2 : Nat) ^ j ≤ 2 ^ 6 := Nat.pow_le_pow_right (by decide) (by omega)
  rw [dep_tab j hj h (by omega) x (by omega) hh hx, Nat.dvd_iff_mod_eq_zero]

theorem dep_dvd {j h : Nat} (hj : j < 7) (hh : h ≤ 2 ^ j) : 2 ^ (j - dep j h) ∣ h := (dep_iff hj hh dep_le_j).1 (Nat.le_refl _)

theorem pow_pos2 (a : Nat) : 0 < 2 ^ a := Nat.pow_pos (by decide)

/-- Strictly between a height and the next of a lower depth all are deeper. -/
theorem deep_between {j H u : Nat} (hj : j < 7) (hH : H ≤ 2 ^ j) (hu : u ≤ 2 ^ j) (h1 : H < u) (h2 : u < H + 2 ^ (j - dep j H)) : dep j H < dep j u := by
  rcases Nat.lt_or_ge (dep j H) (dep j u) with h | h
  · exact h
  · have a := dep_dvd hj hH
    have b := (dep_iff hj hu dep_le_j).1 h
    have c := Nat.dvd_sub b a
    have := Nat.le_of_dvd (by omega) c
    omega

theorem next_le {j H : Nat} (hj : j < 7) (hH : H < 2 ^ j) : H + 2 ^ (j - dep j H) ≤ 2 ^ j := by
  have a := dep_dvd hj (Nat.le_of_lt hH)
  have b : 2 ^ (j - dep j H) ∣ 2 ^ j := Nat.pow_dvd_pow 2 (by omega)
  have c := Nat.dvd_sub b a
  have := Nat.le_of_dvd (by omega) c
  omega

theorem odd_next {a H : Nat} (h1 : 2 ^ a ∣ H) (h2 : ¬ 2 ^ (a + 1) ∣ H) : 2 ^ (a + 1) ∣ H + 2 ^ a := by
  obtain ⟨q, rfl⟩ := h1
  have hq : q % 2 = 1 := by
    rcases Nat.mod_two_eq_zero_or_one q with h | h
    · exfalso
      apply h2
      refine ⟨q / 2, ?_⟩
      rw [Nat.pow_succ, Nat.mul_assoc]
      congr 1
      omega
    · exact h
  refine ⟨(q + 1) / 2, ?_⟩
  rw [Nat.pow_succ, Nat.mul_assoc, ← Nat.mul_succ]
  congr 1
  omega

/-- The next height of a lower depth is of a lower depth. -/
theorem next_low {j H : Nat} (hj : j < 7) (hH : H < 2 ^ j) (h' : H + 2 ^ (j - dep j H) < 2 ^ j) : dep j (H + 2 ^ (j - dep j H)) < dep j H := by
  have hx : 0 < dep j H := by
    rcases Nat.eq_zero_or_pos (dep j H) with h | h
    · rw [h] at h'
      simp at h'
      omega
    · exact h
  have hle := dep_le_j (j := j) (h := H)
  have a := dep_dvd hj (Nat.le_of_lt hH)
  have b : ¬ 2 ^ (j - dep j H + 1) ∣ H := fun hd => by
    have e : j - dep j H + 1 = j - (dep j H - 1) := by omega
    rw [e] at hd
    have := (dep_iff hj (Nat.le_of_lt hH) (by omega)).2 hd
    omega
  have c := odd_next a b
  have e : j - dep j H + 1 = j - (dep j H - 1) := by omega
  rw [e] at c
  have := (dep_iff hj (Nat.le_of_lt h') (by omega)).2 c
  omega

theorem raise_dep {j H t : Nat} (hj : j < 7) (hH : H < 2 ^ j) (ht : t ≤ j - dep j H) : dep j (H + 2 ^ t) ≤ j - t := by
  have a := dep_dvd hj (Nat.le_of_lt hH)
  have b : 2 ^ t ∣ H := Nat.dvd_trans (Nat.pow_dvd_pow 2 ht) a
  have hle : 2 ^ t ≤ 2 ^ (j - dep j H) := Nat.pow_le_pow_right (by decide) ht
  have hn := next_le hj hH
  refine (dep_iff hj (by omega) (by omega)).2 ?_
  have e : j - (j - t) = t := by omega
  rw [e]
  exact Nat.dvd_add b (Nat.dvd_refl _)

/-- Two heights of one depth have a height of a lower one between them. -/
theorem low_between {j a b : Nat} (hj : j < 7) (ha : a < 2 ^ j) (hb : b < a) (he : dep j a = dep j b) : ∃ u, b < u ∧ u < a ∧ dep j u < dep j b := by
  have hx : 0 < dep j b := by
    rcases Nat.eq_zero_or_pos (dep j b) with h | h
    · have d := dep_dvd hj (Nat.le_of_lt ha)
      rw [he, h] at d
      have := Nat.le_of_dvd (by omega) (show 2 ^ j ∣ a from d)
      omega
    · exact h
  have hle := dep_le_j (j := j) (h := b)
  have da := dep_dvd hj (Nat.le_of_lt ha)
  have db := dep_dvd hj (show b ≤ 2 ^ j by omega)
  rw [he] at da
  have c := Nat.dvd_sub da db
  have hge := Nat.le_of_dvd (by omega) c
  have hne : a ≠ b + 2 ^ (j - dep j b) := fun h => by
    have := next_low hj (show b < 2 ^ j by omega) (by omega)
    rw [← h, he] at this
    omega
  exact ⟨b + 2 ^ (j - dep j b), by have := pow_pos2 (j - dep j b); omega, by omega, next_low hj (by omega) (by omega)⟩

end Go.Proofs.YbulkafceFmt
