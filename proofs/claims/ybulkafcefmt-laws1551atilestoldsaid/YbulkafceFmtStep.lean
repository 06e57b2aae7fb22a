/-
  BUDDY's frontier, in plain words: what holds of it, and that a job's step keeps it.
-/
import Derived.Test.YbulkafceFmtMath
namespace Go.Proofs.YbulkafceFmt

/-- A segment: its first node, its nodes, its height. -/
structure Sg where
  f : Nat
  n : Nat
  h : Nat

/-- The segments follow one another from 'lo' to 'hi'. -/
def Cont : Nat → List Sg → Nat → Prop
  | lo, [], hi => lo = hi
  | lo, s :: r, hi => s.f = lo ∧ 0 < s.n ∧ Cont (s.f + s.n) r hi

/-- Of two heights, a the higher: the one is of a lower depth than all from the other on. -/
def Qd (j a b : Nat) : Prop := (∀ u, b ≤ u → u < a → dep j a < dep j u) ∨ (∀ u, b < u → u ≤ a → dep j b < dep j u)

/-- The width's exponent that a height asks for. -/
def wid (n j c h : Nat) : Nat := max c (n + dep j h - j)

def area (l : List Sg) : Nat := (l.map fun s => s.n * s.h).sum

structure Inv (n j c k : Nat) (l : List Sg) : Prop where
  cont : Cont 0 l (2 ^ n)
  dec : l.Pairwise fun a b => b.h < a.h
  top : ∀ s ∈ l, s.h ≤ 2 ^ j
  al : ∀ s ∈ l, s.h < 2 ^ j → 2 ^ wid n j c s.h ∣ s.f ∧ 2 ^ wid n j c s.h ∣ s.f + s.n
  q : l.Pairwise fun a b => a.h < 2 ^ j → Qd j a.h b.h
  ar : area l = k * 2 ^ n

theorem Cont.append {lo hi : Nat} {A B : List Sg} : Cont lo (A ++ B) hi ↔ ∃ m, Cont lo A m ∧ Cont m B hi := by
  induction A generalizing lo with
  | nil => simp [Cont]
  | cons a r ih =>
    simp only [List.cons_append, Cont, ih]
    constructor
    · rintro ⟨h1, h2, m, h3, h4⟩; exact ⟨m, ⟨h1, h2, h3⟩, h4⟩
    · rintro ⟨m, ⟨h1, h2, h3⟩, h4⟩; exact ⟨h1, h2, m, h3, h4⟩

theorem Cont.bounds {lo hi : Nat} {l : List Sg} (h : Cont lo l hi) : lo ≤ hi ∧ ∀ s ∈ l, lo ≤ s.f ∧ 0 < s.n ∧ s.f + s.n ≤ hi := by
  induction l generalizing lo with
  | nil => simp [Cont] at h; subst h; exact ⟨Nat.le_refl _, fun s hs => by cases hs⟩
  | cons a r ih =>
    obtain ⟨h1, h2, h3⟩ := h
    obtain ⟨h4, h5⟩ := ih h3
    refine ⟨by omega, fun s hs => ?_⟩
    rcases List.mem_cons.1 hs with rfl | hs
    · omega
    · have := h5 s hs; omega

/-- Two different segments have no node in common. -/
theorem Cont.apart {lo hi : Nat} {A B : List Sg} {s : Sg} (h : Cont lo (A ++ s :: B) hi) : (∀ t ∈ A, t.f + t.n ≤ s.f) ∧ ∀ t ∈ B, s.f + s.n ≤ t.f := by
  obtain ⟨m, h1, h2⟩ := Cont.append.1 h
  obtain ⟨h3, h4, h5⟩ := h2
  refine ⟨fun t ht => ?_, fun t ht => ?_⟩
  · have := h1.bounds.2 t ht; omega
  · have := h5.bounds.2 t ht; omega

theorem area_append (A B : List Sg) : area (A ++ B) = area A + area B := by simp [area]
theorem area_cons (s : Sg) (B : List Sg) : area (s :: B) = s.n * s.h + area B := by simp [area]

theorem area_le {lo hi M : Nat} {l : List Sg} (h : Cont lo l hi) (ht : ∀ s ∈ l, s.h = M) : area l = (hi - lo) * M := by
  induction l generalizing lo with
  | nil => simp [Cont] at h; subst h; simp [area]
  | cons a r ih =>
    obtain ⟨h1, h2, h3⟩ := h
    rw [area_cons, ih h3 (fun s hs => ht s (List.mem_cons_of_mem _ hs)), ht a List.mem_cons_self, ← Nat.add_mul]
    have := h3.bounds.1
    congr 1
    omega

/-- While jobs are left some segment lies below the top. -/
theorem Inv.some_open {n j c k : Nat} {l : List Sg} (h : Inv n j c k l) (hk : k < 2 ^ j) : ∃ s ∈ l, s.h < 2 ^ j := by
  rcases Classical.em (∃ s ∈ l, s.h < 2 ^ j) with h1 | h1
  · exact h1
  · exfalso
    have ha := area_le h.cont (M := 2 ^ j) (fun s hs => by
      have := h.top s hs
      rcases Nat.lt_or_ge s.h (2 ^ j) with h2 | h2
      · exact absurd ⟨s, hs, h2⟩ h1
      · omega)
    rw [h.ar, Nat.sub_zero, Nat.mul_comm (2 ^ n)] at ha
    have := Nat.eq_of_mul_eq_mul_right (pow_pos2 n) ha
    omega

theorem qd_ne {j a b : Nat} (hb : b < a) (h : Qd j a b) : dep j a ≠ dep j b := by
  rcases h with h | h
  · have := h b (Nat.le_refl _) hb; omega
  · have := h a hb (Nat.le_refl _); omega

/-- No two open segments are of one depth. -/
theorem Inv.distinct {n j c k : Nat} {l A B : List Sg} {s t : Sg} (h : Inv n j c k l) (hl : l = A ++ s :: B) (ht : t ∈ A ∨ t ∈ B) (hs : s.h < 2 ^ j) (hto : t.h < 2 ^ j) : dep j t.h ≠ dep j s.h := by
  subst hl
  obtain ⟨d1, d2, d3⟩ := List.pairwise_append.1 h.dec
  obtain ⟨q1, q2, q3⟩ := List.pairwise_append.1 h.q
  rcases ht with ht | ht
  · exact qd_ne (d3 t ht s List.mem_cons_self) (q3 t ht s List.mem_cons_self hto)
  · exact (qd_ne ((List.pairwise_cons.1 d2).1 t ht) ((List.pairwise_cons.1 q2).1 t ht hs)).symm

theorem Inv.start (n j c : Nat) (hc : c ≤ n) (hj : j < 7) : Inv n j c 0 [⟨0, 2 ^ n, 0⟩] := by
  refine ⟨⟨rfl, pow_pos2 n, by simp [Cont]⟩, List.pairwise_singleton _ _, fun s hs => ?_, fun s hs _ => ?_, List.pairwise_singleton _ _, by simp [area]⟩
  · simp at hs; subst hs; simp
  · simp at hs
    subst hs
    have e : wid n j c 0 ≤ n := by unfold wid dep; simp; omega
    exact ⟨Nat.dvd_zero _, by simpa using Nat.pow_dvd_pow 2 e⟩

/-- A later job asks for no more. -/
theorem Inv.less {n j c c' k : Nat} {l : List Sg} (h : Inv n j c k l) (hc : c' ≤ c) : Inv n j c' k l :=
  ⟨h.cont, h.dec, h.top, fun s hs ho => by
    have e : wid n j c' s.h ≤ wid n j c s.h := by unfold wid; omega
    obtain ⟨a, b⟩ := h.al s hs ho
    exact ⟨Nat.dvd_trans (Nat.pow_dvd_pow 2 e) a, Nat.dvd_trans (Nat.pow_dvd_pow 2 e) b⟩, h.q, h.ar⟩

/-- What is left of the segment. -/
def restOf (s : Sg) (W : Nat) : List Sg := if W < s.n then [⟨s.f + W, s.n - W, s.h⟩] else []

/-- The frontier behind a piece of W nodes and T steps on the segment between A and B. -/
def raised (A : List Sg) (s : Sg) (B : List Sg) (W T : Nat) : List Sg :=
  match A.getLast? with
  | some l => if l.h = s.h + T then A.dropLast ++ ⟨l.f, l.n + W, l.h⟩ :: (restOf s W ++ B) else A ++ ⟨s.f, W, s.h + T⟩ :: (restOf s W ++ B)
  | none => ⟨s.f, W, s.h + T⟩ :: (restOf s W ++ B)

/-- .. before it is joined with its left neighbour. -/
structure Mid (n j c k : Nat) (A : List Sg) (s' : Sg) (C : List Sg) : Prop where
  cont : Cont 0 (A ++ s' :: C) (2 ^ n)
  dA : A.Pairwise fun a b => b.h < a.h
  dC : (s' :: C).Pairwise fun a b => b.h < a.h
  dX : ∀ a ∈ A, s'.h ≤ a.h
  top : ∀ s ∈ A ++ s' :: C, s.h ≤ 2 ^ j
  al : ∀ s ∈ A ++ s' :: C, s.h < 2 ^ j → 2 ^ wid n j c s.h ∣ s.f ∧ 2 ^ wid n j c s.h ∣ s.f + s.n
  qA : A.Pairwise fun a b => a.h < 2 ^ j → Qd j a.h b.h
  qC : (s' :: C).Pairwise fun a b => a.h < 2 ^ j → Qd j a.h b.h
  qX : ∀ a ∈ A, a.h < 2 ^ j → (s'.h < a.h → Qd j a.h s'.h) ∧ ∀ b ∈ C, Qd j a.h b.h
  ar : area (A ++ s' :: C) = k * 2 ^ n

theorem Mid.apartInv {n j c k : Nat} {A C : List Sg} {s' : Sg} (h : Mid n j c k A s' C) (hne : ∀ l, A.getLast? = some l → l.h ≠ s'.h) : Inv n j c k (A ++ s' :: C) := by
  have hlt : ∀ a ∈ A, s'.h < a.h := by
    intro a ha
    have h1 := h.dX a ha
    obtain ⟨l, hl⟩ : ∃ l, A.getLast? = some l := by
      cases hg : A.getLast? with
      | none => rw [List.getLast?_eq_none_iff] at hg; subst hg; cases ha
      | some l => exact ⟨l, rfl⟩
    have hlA : l ∈ A := List.mem_of_getLast? hl
    have h2 := h.dX l hlA
    have h3 := hne l hl
    obtain ⟨A0, hA0⟩ := List.getLast?_eq_some_iff.1 hl
    have hd := h.dA
    rw [hA0] at hd ha
    obtain ⟨_, _, d3⟩ := List.pairwise_append.1 hd
    rcases List.mem_append.1 ha with ha | ha
    · have := d3 a ha l (by simp); omega
    · simp at ha; subst ha; omega
  refine ⟨h.cont, List.pairwise_append.2 ⟨h.dA, h.dC, fun a ha b hb => ?_⟩, h.top, h.al, List.pairwise_append.2 ⟨h.qA, h.qC, fun a ha b hb hao => ?_⟩, h.ar⟩
  · have := hlt a ha
    rcases List.mem_cons.1 hb with rfl | hb
    · exact this
    · have := (List.pairwise_cons.1 h.dC).1 b hb; omega
  · rcases List.mem_cons.1 hb with rfl | hb
    · exact (h.qX a ha hao).1 (hlt a ha)
    · exact (h.qX a ha hao).2 b hb

theorem Mid.joinInv {n j c k : Nat} {A C : List Sg} {l s' : Sg} (h : Mid n j c k (A ++ [l]) s' C) (he : l.h = s'.h) : Inv n j c k (A ++ ⟨l.f, l.n + s'.n, l.h⟩ :: C) := by
  obtain ⟨dA, _, dAl⟩ := List.pairwise_append.1 h.dA
  obtain ⟨qA, _, qAl⟩ := List.pairwise_append.1 h.qA
  obtain ⟨dC1, dC⟩ := List.pairwise_cons.1 h.dC
  obtain ⟨qC1, qC⟩ := List.pairwise_cons.1 h.qC
  have hc := h.cont
  rw [List.append_assoc] at hc
  obtain ⟨m, c1, c2, c3, c4, c5, c6⟩ := Cont.append.1 hc
  refine ⟨Cont.append.2 ⟨m, c1, c2, by simp only; omega, ?_⟩, List.pairwise_append.2 ⟨dA, List.pairwise_cons.2 ⟨fun b hb => ?_, dC⟩, fun a ha b hb => ?_⟩, fun s hs => ?_, fun s hs ho => ?_, List.pairwise_append.2 ⟨qA, List.pairwise_cons.2 ⟨fun b hb hao => ?_, qC⟩, fun a ha b hb hao => ?_⟩, ?_⟩
  · simp only
    rw [show l.f + (l.n + s'.n) = s'.f + s'.n by omega]
    exact c6
  · have := dC1 b hb; simp only; omega
  · rcases List.mem_cons.1 hb with rfl | hb
    · exact dAl a ha l (by simp)
    · have h1 := dAl a ha l (by simp)
      have := dC1 b hb
      omega
  · rcases List.mem_append.1 hs with hs | hs
    · exact h.top s (by simp [hs])
    · rcases List.mem_cons.1 hs with rfl | hs
      · exact h.top l (by simp)
      · exact h.top s (by simp [hs])
  · rcases List.mem_append.1 hs with hs | hs
    · exact h.al s (by simp [hs]) ho
    · rcases List.mem_cons.1 hs with rfl | hs
      · have a1 := (h.al l (by simp) ho).1
        have a2 := (h.al s' (by simp) (by rw [← he]; exact ho)).2
        rw [← he] at a2
        refine ⟨a1, ?_⟩
        simp only
        rw [show l.f + (l.n + s'.n) = s'.f + s'.n by omega]
        exact a2
      · exact h.al s (by simp [hs]) ho
  · simp only at hao ⊢
    rw [he] at hao ⊢
    exact qC1 b hb hao
  · rcases List.mem_cons.1 hb with rfl | hb
    · exact qAl a ha l (by simp) hao
    · exact (h.qX a (by simp [ha]) hao).2 b hb
  · have := h.ar
    rw [area_append, area_append, area_cons, area_cons] at this
    rw [area_append, area_cons, Nat.add_mul, ← this]
    simp only [area, List.map_nil, List.sum_nil, he]
    omega

end Go.Proofs.YbulkafceFmt
