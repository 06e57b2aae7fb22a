/-
  BUDDY's frontier, in plain words: the step.
-/
import Derived.Test.YbulkafceFmtStep
namespace Go.Proofs.YbulkafceFmt

theorem mem_restOf {s b : Sg} {W : Nat} (h : b ∈ restOf s W) : W < s.n ∧ b = ⟨s.f + W, s.n - W, s.h⟩ := by
  unfold restOf at h
  split at h
  · simp at h; exact ⟨by assumption, h⟩
  · cases h

theorem wid_le {n j c h : Nat} (hc : c ≤ n) : wid n j c h ≤ n := by
  have := dep_le_j (j := j) (h := h)
  unfold wid
  omega

theorem step_mid {n j c k : Nat} {A B : List Sg} {s : Sg} (hj : j < 7) (hc : c ≤ n) (h : Inv n j c k (A ++ s :: B)) (hs : s.h < 2 ^ j) (hmax : ∀ t, t ∈ A ∨ t ∈ B → t.h < 2 ^ j → dep j t.h < dep j s.h) :
    2 ^ wid n j c s.h ≤ s.n ∧ s.h + 2 ^ (n - wid n j c s.h) ≤ 2 ^ j ∧ Mid n j c (k + 1) A ⟨s.f, 2 ^ wid n j c s.h, s.h + 2 ^ (n - wid n j c s.h)⟩ (restOf s (2 ^ wid n j c s.h) ++ B) := by
  have hmn : wid n j c s.h ≤ n := wid_le hc
  have hdj := dep_le_j (j := j) (h := s.h)
  have ht : n - wid n j c s.h ≤ j - dep j s.h := by unfold wid; omega
  have hsm : s ∈ A ++ s :: B := by simp
  obtain ⟨al1, al2⟩ := h.al s hsm hs
  have hpos : 0 < s.n := (h.cont.bounds.2 s hsm).2.1
  have hW : 2 ^ wid n j c s.h ∣ s.n := (Nat.dvd_add_right al1).1 al2
  have hWle := Nat.le_of_dvd hpos hW
  have hT2 : 2 ^ (n - wid n j c s.h) ≤ 2 ^ (j - dep j s.h) := Nat.pow_le_pow_right (by decide) ht
  have hnl := next_le hj hs
  have hrd := raise_dep hj hs ht
  have hWT : 2 ^ wid n j c s.h * 2 ^ (n - wid n j c s.h) = 2 ^ n := by rw [← Nat.pow_add]; congr 1; omega
  have hWp := pow_pos2 (wid n j c s.h)
  have hTp := pow_pos2 (n - wid n j c s.h)
  have hwid' : wid n j c (s.h + 2 ^ (n - wid n j c s.h)) ≤ wid n j c s.h := by
    have h1 : c ≤ wid n j c s.h := by unfold wid; omega
    have h2 : n + dep j (s.h + 2 ^ (n - wid n j c s.h)) - j ≤ wid n j c s.h := by omega
    exact Nat.max_le.2 ⟨h1, h2⟩
  have htc : n - wid n j c s.h < j - dep j s.h → 2 ^ (n - wid n j c s.h) < 2 ^ (j - dep j s.h) := fun hlt => Nat.pow_lt_pow_right (by decide) hlt
  have hte : n - wid n j c s.h = j - dep j s.h → 2 ^ (n - wid n j c s.h) = 2 ^ (j - dep j s.h) := fun he => by rw [he]
  refine ⟨hWle, by omega, ?_⟩
  generalize hW0 : 2 ^ wid n j c s.h = W at *
  generalize hT0 : 2 ^ (n - wid n j c s.h) = T at *
  obtain ⟨dA, dsB, dX⟩ := List.pairwise_append.1 h.dec
  obtain ⟨dsB1, dB⟩ := List.pairwise_cons.1 dsB
  obtain ⟨qA, qsB, qX⟩ := List.pairwise_append.1 h.q
  obtain ⟨qsB1, qB⟩ := List.pairwise_cons.1 qsB
  obtain ⟨m, cA, cf, cn, cB⟩ := Cont.append.1 h.cont
  -- between the old height and the new one all are deeper
  have hbet : ∀ u, s.h < u → u < s.h + T → dep j s.h < dep j u := fun u h1 h2 => deep_between hj (Nat.le_of_lt hs) (by omega) h1 (by omega)
  have hselfQ : s.h + T < 2 ^ j → Qd j (s.h + T) s.h := by
    intro ho
    rcases Nat.lt_or_eq_of_le ht with hlt | heq
    · right
      intro u h1 h2
      have := htc hlt
      exact deep_between hj (Nat.le_of_lt hs) (by omega) h1 (by omega)
    · left
      have e := hte heq
      have hlow := next_low hj hs (by omega)
      rw [← e] at hlow
      intro u h1 h2
      rcases Nat.lt_or_eq_of_le h1 with h3 | h3
      · have := hbet u h3 h2; omega
      · rw [← h3]; exact hlow
  have hBQ : ∀ b ∈ B, s.h + T < 2 ^ j → Qd j (s.h + T) b.h := by
    intro b hb ho
    have hbs := dsB1 b hb
    have hdb := hmax b (.inr hb) (by omega)
    rcases qsB1 b hb hs with hq | hq
    · have := hq b.h (Nat.le_refl _) hbs; omega
    · have hall : ∀ u, b.h < u → u < s.h + T → dep j b.h < dep j u := by
        intro u h1 h2
        rcases Nat.lt_or_ge s.h u with h3 | h3
        · have := hbet u h3 h2; omega
        · exact hq u h1 h3
      rcases Nat.lt_trichotomy (dep j (s.h + T)) (dep j b.h) with h1 | h1 | h1
      · left
        intro u h2 h3
        rcases Nat.lt_or_eq_of_le h2 with h4 | h4
        · have := hall u h4 h3; omega
        · rw [← h4]; exact h1
      · exfalso
        obtain ⟨u, u1, u2, u3⟩ := low_between hj ho (show b.h < s.h + T by omega) h1
        have := hall u u1 u2
        omega
      · right
        intro u h2 h3
        rcases Nat.lt_or_eq_of_le h3 with h4 | h4
        · exact hall u h2 h4
        · rw [h4]; exact h1
  have hAX : ∀ a ∈ A, a.h < 2 ^ j → ∀ u, s.h ≤ u → u < a.h → dep j a.h < dep j u := by
    intro a ha hao
    have hda := hmax a (.inl ha) hao
    rcases qX a ha s List.mem_cons_self hao with hq | hq
    · exact hq
    · have := hq a.h (dX a ha s List.mem_cons_self) (Nat.le_refl _); omega
  refine ⟨?_, dA, ?_, ?_, ?_, ?_, qA, ?_, ?_, ?_⟩
  · refine Cont.append.2 ⟨m, cA, cf, hWp, ?_⟩
    unfold restOf
    split
    · refine ⟨rfl, by simp only; omega, ?_⟩
      simp only
      rw [show s.f + W + (s.n - W) = s.f + s.n by omega]
      exact cB
    · simp only [List.nil_append]
      rw [show s.f + W = s.f + s.n by omega]
      exact cB
  · refine List.pairwise_cons.2 ⟨fun b hb => ?_, List.pairwise_append.2 ⟨?_, dB, fun a ha b hb => ?_⟩⟩
    · simp only
      rcases List.mem_append.1 hb with hb | hb
      · rw [(mem_restOf hb).2]; simp only; omega
      · have := dsB1 b hb; omega
    · unfold restOf; split
      · exact List.pairwise_singleton _ _
      · exact List.Pairwise.nil
    · rw [(mem_restOf ha).2]
      exact dsB1 b hb
  · intro a ha
    have h1 := dX a ha s List.mem_cons_self
    simp only
    rcases Nat.lt_or_ge a.h (2 ^ j) with hao | hao
    · rcases Nat.lt_or_ge a.h (s.h + T) with h2 | h2
      · have := hbet a.h h1 h2
        have := hmax a (.inl ha) hao
        omega
      · exact h2
    · omega
  · intro t ht'
    rcases List.mem_append.1 ht' with ht' | ht'
    · exact h.top t (by simp [ht'])
    · rcases List.mem_cons.1 ht' with rfl | ht'
      · simp only; omega
      · rcases List.mem_append.1 ht' with ht' | ht'
        · rw [(mem_restOf ht').2]; simp only; omega
        · exact h.top t (by simp [ht'])
  · intro t ht' ho
    rcases List.mem_append.1 ht' with ht' | ht'
    · exact h.al t (by simp [ht']) ho
    · rcases List.mem_cons.1 ht' with rfl | ht'
      · simp only
        have hp : 2 ^ wid n j c (s.h + T) ∣ W := by rw [← hW0]; exact Nat.pow_dvd_pow 2 hwid'
        exact ⟨Nat.dvd_trans hp al1, Nat.dvd_add (Nat.dvd_trans hp al1) hp⟩
      · rcases List.mem_append.1 ht' with ht' | ht'
        · obtain ⟨hlt, rfl⟩ := mem_restOf ht'
          simp only
          rw [hW0]
          refine ⟨Nat.dvd_add al1 (Nat.dvd_refl _), ?_⟩
          rw [show s.f + W + (s.n - W) = s.f + s.n by omega]
          exact al2
        · exact h.al t (by simp [ht']) ho
  · refine List.pairwise_cons.2 ⟨fun b hb ho => ?_, List.pairwise_append.2 ⟨?_, qB, fun a ha b hb hao => ?_⟩⟩
    · simp only at ho ⊢
      rcases List.mem_append.1 hb with hb | hb
      · rw [(mem_restOf hb).2]; exact hselfQ ho
      · exact hBQ b hb ho
    · unfold restOf; split
      · exact List.pairwise_singleton _ _
      · exact List.Pairwise.nil
    · rw [(mem_restOf ha).2]
      exact qsB1 b hb hs
  · intro a ha hao
    have hx := hAX a ha hao
    refine ⟨fun hlt => .inl fun u h1 h2 => hx u (by simp only at h1; omega) h2, fun b hb => ?_⟩
    rcases List.mem_append.1 hb with hb | hb
    · rw [(mem_restOf hb).2]
      exact .inl hx
    · exact qX a ha b (by simp [hb]) hao
  · have har := h.ar
    rw [area_append, area_cons] at har
    rw [area_append, area_cons, area_append, Nat.add_mul, ← har, Nat.one_mul, ← hWT]
    simp only
    unfold restOf
    split
    · rw [area_cons]
      simp only [area, List.map_nil, List.sum_nil]
      have e : s.n * s.h = W * s.h + (s.n - W) * s.h := by rw [← Nat.add_mul]; congr 1; omega
      rw [e, Nat.mul_add]
      omega
    · have e : s.n = W := by omega
      rw [e, Nat.mul_add]
      simp only [area, List.map_nil, List.sum_nil]
      omega

end Go.Proofs.YbulkafceFmt
