/-
  BUDDY's frontier, in plain words: a whole step, and that the pieces lie apart.
-/
import Derived.Test.YbulkafceFmtStep2
namespace Go.Proofs.YbulkafceFmt

theorem step_inv {n j c k : Nat} {A B : List Sg} {s : Sg} (hj : j < 7) (hc : c ≤ n) (h : Inv n j c k (A ++ s :: B)) (hs : s.h < 2 ^ j) (hmax : ∀ t, t ∈ A ∨ t ∈ B → t.h < 2 ^ j → dep j t.h < dep j s.h) :
    Inv n j c (k + 1) (raised A s B (2 ^ wid n j c s.h) (2 ^ (n - wid n j c s.h))) := by
  obtain ⟨_, _, hm⟩ := step_mid hj hc h hs hmax
  unfold raised
  split
  · rename_i l hl
    split
    · rename_i he
      obtain ⟨A0, hA0⟩ := List.getLast?_eq_some_iff.1 hl
      subst hA0
      rw [List.dropLast_concat]
      exact hm.joinInv he
    · rename_i hne
      exact hm.apartInv fun l' hl' => by
        rw [hl] at hl'
        cases hl'
        exact hne
  · rename_i hl
    rw [List.getLast?_eq_none_iff] at hl
    subst hl
    exact hm.apartInv fun l' hl' => by cases hl'

/-- A piece: its first node, its nodes, its first step, the step behind it. -/
structure Pc where
  f : Nat
  n : Nat
  a : Nat
  e : Nat

def nodesMeet (f n f' n' : Nat) : Prop := f < f' + n' ∧ f' < f + n

/-- Each segment lies as high as every piece under it; no two pieces overlap. -/
structure Apart (ps : List Pc) (l : List Sg) : Prop where
  pos : ∀ p ∈ ps, 0 < p.n
  under : ∀ p ∈ ps, ∀ s ∈ l, nodesMeet p.f p.n s.f s.n → p.e ≤ s.h
  two : ps.Pairwise fun a b => nodesMeet a.f a.n b.f b.n → ¬ (a.a < b.e ∧ b.a < a.e)

theorem Apart.nil (l : List Sg) : Apart [] l := ⟨(fun p hp => by cases hp), (fun p hp => by cases hp), List.Pairwise.nil⟩

theorem mem_raised {A B : List Sg} {s t : Sg} {W T : Nat} (ht : t ∈ raised A s B W T) :
    t ∈ A ∨ t ∈ B ∨ t ∈ restOf s W ∨ t = ⟨s.f, W, s.h + T⟩ ∨ ∃ l, A.getLast? = some l ∧ l.h = s.h + T ∧ t = ⟨l.f, l.n + W, l.h⟩ := by
  unfold raised at ht
  split at ht
  · rename_i l hl
    split at ht
    · rename_i he
      rcases List.mem_append.1 ht with h | h
      · exact .inl (List.dropLast_subset _ h)
      · rcases List.mem_cons.1 h with h | h
        · exact .inr (.inr (.inr (.inr ⟨l, hl, he, h⟩)))
        · rcases List.mem_append.1 h with h | h
          · exact .inr (.inr (.inl h))
          · exact .inr (.inl h)
    · rcases List.mem_append.1 ht with h | h
      · exact .inl h
      · rcases List.mem_cons.1 h with h | h
        · exact .inr (.inr (.inr (.inl h)))
        · rcases List.mem_append.1 h with h | h
          · exact .inr (.inr (.inl h))
          · exact .inr (.inl h)
  · rcases List.mem_cons.1 ht with h | h
    · exact .inr (.inr (.inr (.inl h)))
    · rcases List.mem_append.1 h with h | h
      · exact .inr (.inr (.inl h))
      · exact .inr (.inl h)

theorem Apart.step {ps : List Pc} {A B : List Sg} {s : Sg} {W T hi : Nat} (h : Apart ps (A ++ s :: B)) (hc : Cont 0 (A ++ s :: B) hi) (hW : W ≤ s.n) (hW0 : 0 < W) :
    Apart (ps ++ [⟨s.f, W, s.h, s.h + T⟩]) (raised A s B W T) := by
  obtain ⟨hA, hB⟩ := hc.apart
  have hlast : ∀ l, A.getLast? = some l → l ∈ A ∧ l.f + l.n = s.f := by
    intro l hl
    obtain ⟨A0, hA0⟩ := List.getLast?_eq_some_iff.1 hl
    subst hA0
    refine ⟨by simp, ?_⟩
    obtain ⟨m, c1, c2, c3, c4⟩ := Cont.append.1 hc
    obtain ⟨m', d1, d2, d3, d4⟩ := Cont.append.1 c1
    simp only [Cont] at d4
    omega
  refine ⟨fun p hp => ?_, fun p hp t ht hm => ?_, List.pairwise_append.2 ⟨h.two, List.pairwise_singleton _ _, fun a ha b hb hm => ?_⟩⟩
  · rcases List.mem_append.1 hp with hp | hp
    · exact h.pos p hp
    · simp at hp; subst hp; exact hW0
  · rcases List.mem_append.1 hp with hp | hp
    · have hpn := h.pos p hp
      rcases mem_raised ht with ht | ht | ht | ht | ⟨l, hl, he, ht⟩
      · exact h.under p hp t (by simp [ht]) hm
      · exact h.under p hp t (by simp [ht]) hm
      · unfold restOf at ht
        split at ht
        · simp at ht
          subst ht
          have := h.under p hp s (by simp) ⟨by simp only [nodesMeet] at hm; omega, by simp only [nodesMeet] at hm; omega⟩
          exact this
        · cases ht
      · subst ht
        have := h.under p hp s (by simp) ⟨by simp only [nodesMeet] at hm; omega, by simp only [nodesMeet] at hm; omega⟩
        simp only
        omega
      · subst ht
        obtain ⟨hlA, hlf⟩ := hlast l hl
        simp only [nodesMeet] at hm ⊢
        rcases Nat.lt_or_ge p.f (l.f + l.n) with h1 | h1
        · exact h.under p hp l (by simp [hlA]) ⟨h1, hm.2⟩
        · have := h.under p hp s (by simp) ⟨by omega, by omega⟩
          omega
    · simp at hp
      subst hp
      simp only [nodesMeet] at hm ⊢
      rcases mem_raised ht with ht | ht | ht | ht | ⟨l, hl, he, ht⟩
      · have := hA t ht; omega
      · have := hB t ht; omega
      · unfold restOf at ht
        split at ht
        · simp at ht
          subst ht
          simp only at hm
          omega
        · cases ht
      · subst ht; simp only; omega
      · subst ht; simp only; omega
  · simp at hb
    subst hb
    simp only [nodesMeet] at hm ⊢
    have := h.under a ha s (by simp) ⟨by omega, by omega⟩
    omega

end Go.Proofs.YbulkafceFmt
