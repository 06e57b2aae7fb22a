/-
  fill, in plain words.
-/
import Derived.Test.YbulkafceFmtRaiseP
namespace Go.Proofs.YbulkafceFmt

/-- The greatest depth that is open. -/
theorem top_open {O : Nat → Option Nat} : ∀ (j : Nat) {x : Nat}, x ≤ j → O x ≠ none → ∃ x0 i, x0 ≤ j ∧ O x0 = some i ∧ ∀ y, x0 < y → y ≤ j → O y = none
  | 0, x, hx, hne => by
    obtain rfl : x = 0 := by omega
    cases h : O 0 with
    | none => exact absurd h hne
    | some i => exact ⟨0, i, Nat.le_refl _, h, fun y h1 h2 => by omega⟩
  | j + 1, x, hx, hne => by
    cases h : O (j + 1) with
    | some i => exact ⟨j + 1, i, Nat.le_refl _, h, fun y h1 h2 => by omega⟩
    | none =>
      have hxj : x ≤ j := by
        rcases Nat.lt_or_ge j x with h1 | h1
        · obtain rfl : x = j + 1 := by omega
          exact absurd h hne
        · exact h1
      obtain ⟨x0, i, h1, h2, h3⟩ := top_open j hxj hne
      refine ⟨x0, i, by omega, h2, fun y h4 h5 => ?_⟩
      rcases Nat.lt_or_ge j y with h6 | h6
      · obtain rfl : y = j + 1 := by omega
        exact h
      · exact h3 y h4 h6

/-- The segment that the next job goes on. -/
theorem next_seg {n j c k sz : Nat} {S : Nat → En} {live : List Nat} {O : Nat → Option Nat} (hI : Inv n j c k (sgs S live)) (hSt : St j S sz live O) (hk : k < 2 ^ j) :
    ∃ x0 i X Y, x0 ≤ j ∧ O x0 = some i ∧ (∀ y, x0 < y → y ≤ j → O y = none) ∧ live = X ++ i :: Y ∧ (S i).h < 2 ^ j ∧ dep j (S i).h = x0 ∧
      ∀ t, t ∈ sgs S X ∨ t ∈ sgs S Y → t.h < 2 ^ j → dep j t.h < dep j (S i).sg.h := by
  obtain ⟨s, hs, ho⟩ := hI.some_open hk
  obtain ⟨m, hm, rfl⟩ := List.mem_map.1 hs
  have hO : O (dep j (S m).h) ≠ none := by
    rw [(hSt.op _ dep_le_j m).2 ⟨hm, ho, rfl⟩]
    simp
  obtain ⟨x0, i, h1, h2, h3⟩ := top_open j dep_le_j hO
  obtain ⟨h4, h5, h6⟩ := (hSt.op x0 h1 i).1 h2
  obtain ⟨X, Y, hl⟩ := List.append_of_mem h4
  refine ⟨x0, i, X, Y, h1, h2, h3, hl, h5, h6, fun t ht hto => ?_⟩
  have hd := hI.dist hSt.ch
  have key : ∀ q, q ∈ live → q ≠ i → (S q).h < 2 ^ j → dep j (S q).h < dep j (S i).h := by
    intro q hq hne hqo
    have h7 := hd q hq i h4 hne hqo h5
    have h8 : dep j (S q).h ≤ x0 := by
      rcases Nat.lt_or_ge x0 (dep j (S q).h) with h9 | h9
      · have h10 := h3 _ h9 dep_le_j
        rw [(hSt.op _ dep_le_j q).2 ⟨hq, hqo, rfl⟩] at h10
        cases h10
      · exact h9
    omega
  have hne := hSt.ch
  rw [hl] at hne
  obtain ⟨n1, n2, _⟩ := hne.ne
  rcases ht with ht | ht
  · obtain ⟨q, hq, rfl⟩ := List.mem_map.1 ht
    exact key q (by rw [hl]; simp [hq]) (n1 q hq) hto
  · obtain ⟨q, hq, rfl⟩ := List.mem_map.1 ht
    exact key q (by rw [hl]; simp [hq]) (n2 q hq) hto

/-- What is said of each piece by itself: its nodes are a power of two, enough, in the row; its steps end by the stretch's end. -/
structure Good (n j m : Nat) (p : Pc) : Prop where
  pw : ∃ e, e ≤ n ∧ p.n = 2 ^ e ∧ p.e = p.a + 2 ^ (n - e)
  least : m ≤ p.n
  row : p.f + p.n ≤ 2 ^ n
  fin : p.e ≤ 2 ^ j

/-- All that is known behind k jobs. -/
structure Plain (n j k : Nat) (g : Nat → Nat) (ps : List Pc) (l : List Sg) : Prop where
  inv : ∃ c, Inv n j c k l ∧ (k < 2 ^ j → Lib.bitLen (g k - 1) ≤ c)
  apart : Apart ps l
  len : ps.length = k
  good : ∀ q p, ps[q]? = some p → Good n j (g q) p

theorem le_two_bitLen : ((List.range 65).all fun m => decide (m ≤ 2 ^ Lib.bitLen (m - 1)) && ((List.range 7).all fun n => decide (2 ^ n < m) || decide (Lib.bitLen (m - 1) ≤ n))) = true := by
  decide +kernel

theorem bitLen_law {m n : Nat} (hn : n < 7) (hm : m ≤ 2 ^ n) : m ≤ 2 ^ Lib.bitLen (m - 1) ∧ Lib.bitLen (m - 1) ≤ n := by
  have h64 : (2 : Nat) ^ n ≤ 2 ^ 6 := Nat.pow_le_pow_right (by decide) (by omega)
  have a := List.all_eq_true.1 le_two_bitLen m (List.mem_range.2 (by omega))
  rw [Bool.and_eq_true] at a
  have b := List.all_eq_true.1 a.2 n (List.mem_range.2 hn)
  simp only [Bool.or_eq_true, decide_eq_true_eq] at b
  exact ⟨of_decide_eq_true a.1, by omega⟩

theorem bitLen_mono_tab : ((List.range 65).all fun m => (List.range 65).all fun k => decide (m < k) || decide (Lib.bitLen (k - 1) ≤ Lib.bitLen (m - 1))) = true := by
  decide +kernel

theorem bitLen_mono {m k : Nat} (hm : m ≤ 64) (h : k ≤ m) : Lib.bitLen (k - 1) ≤ Lib.bitLen (m - 1) := by
  have a := List.all_eq_true.1 bitLen_mono_tab m (List.mem_range.2 (by omega))
  have b := List.all_eq_true.1 a k (List.mem_range.2 (by omega))
  simp only [Bool.or_eq_true, decide_eq_true_eq] at b
  omega

/-- One job more. -/
theorem Plain.step {n j k : Nat} {g : Nat → Nat} {ps : List Pc} {A B : List Sg} {s : Sg} (hj : j < 7) (hn : n < 7) (h : Plain n j k g ps (A ++ s :: B)) (hk : k < 2 ^ j) (hg : ∀ q, g q ≤ 2 ^ n) (ha : k + 1 < 2 ^ j → g (k + 1) ≤ g k) (hs : s.h < 2 ^ j)
    (hmax : ∀ t, t ∈ A ∨ t ∈ B → t.h < 2 ^ j → dep j t.h < dep j s.h) :
    2 ^ wid n j (Lib.bitLen (g k - 1)) s.h ≤ s.n ∧ wid n j (Lib.bitLen (g k - 1)) s.h ≤ n ∧ s.h + 2 ^ (n - wid n j (Lib.bitLen (g k - 1)) s.h) ≤ 2 ^ j ∧ s.f + s.n ≤ 2 ^ n ∧
    (∃ c, Inv n j c (k + 1) (raised A s B (2 ^ wid n j (Lib.bitLen (g k - 1)) s.h) (2 ^ (n - wid n j (Lib.bitLen (g k - 1)) s.h)))) ∧
    Plain n j (k + 1) g (ps ++ [⟨s.f, 2 ^ wid n j (Lib.bitLen (g k - 1)) s.h, s.h, s.h + 2 ^ (n - wid n j (Lib.bitLen (g k - 1)) s.h)⟩]) (raised A s B (2 ^ wid n j (Lib.bitLen (g k - 1)) s.h) (2 ^ (n - wid n j (Lib.bitLen (g k - 1)) s.h))) := by
  obtain ⟨c0, hc0, hc1⟩ := h.inv
  have hI := hc0.less (hc1 hk)
  obtain ⟨hl1, hl2⟩ := bitLen_law hn (hg k)
  obtain ⟨m1, m2, _⟩ := step_mid hj hl2 hI hs hmax
  have hfin := step_inv hj hl2 hI hs hmax
  have hb := hI.cont.bounds.2 s (by simp)
  have hwn : wid n j (Lib.bitLen (g k - 1)) s.h ≤ n := by
    rcases Nat.lt_or_ge n (wid n j (Lib.bitLen (g k - 1)) s.h) with h1 | h1
    · have := Nat.pow_lt_pow_right (a := 2) (by decide) h1
      omega
    · exact h1
  refine ⟨m1, hwn, m2, hb.2.2, ⟨_, hfin⟩, ⟨⟨_, hfin, fun hk1 => ?_⟩, h.apart.step hI.cont m1 (pow_pos2 _), by simp [h.len], fun q p hq => ?_⟩⟩
  · have h64 : (2 : Nat) ^ n ≤ 2 ^ 6 := Nat.pow_le_pow_right (by decide) (by omega)
    have := hg k
    exact bitLen_mono (by omega) (ha hk1)
  · rcases Nat.lt_or_ge q ps.length with h1 | h1
    · rw [List.getElem?_append_left h1] at hq
      exact h.good q p hq
    · rw [List.getElem?_append_right h1] at hq
      obtain ⟨rfl, rfl⟩ : q = ps.length ∧ (⟨s.f, 2 ^ wid n j (Lib.bitLen (g k - 1)) s.h, s.h, s.h + 2 ^ (n - wid n j (Lib.bitLen (g k - 1)) s.h)⟩ : Pc) = p := by
        cases hd : q - ps.length with
        | zero => rw [hd] at hq; simp at hq; exact ⟨by omega, hq⟩
        | succ d => rw [hd] at hq; simp at hq
      rw [h.len]
      refine ⟨⟨_, hwn, rfl, rfl⟩, ?_, ?_, m2⟩
      · refine Nat.le_trans hl1 (Nat.pow_le_pow_right (by decide) ?_)
        unfold wid
        omega
      · simp only
        omega

theorem Plain.start {n j : Nat} {g : Nat → Nat} (hj : j < 7) (hn : n < 7) (hg : ∀ q, g q ≤ 2 ^ n) : Plain n j 0 g [] [⟨0, 2 ^ n, 0⟩] :=
  ⟨⟨_, Inv.start n j _ (bitLen_law hn (hg 0)).2 hj, fun _ => Nat.le_refl _⟩, Apart.nil _, rfl, fun q p hq => by simp at hq⟩

end Go.Proofs.YbulkafceFmt
