/-
  raise, in plain words: what its states are, by their segments.
-/
import Derived.Test.YbulkafceFmtPart
namespace Go.Proofs.YbulkafceFmt

theorem sgs_parts {S S2 : Nat → En} {X Z : List Nat} {i : Nat} {s : Sg} {C : List Sg} (h : sgs S2 (X ++ i :: Z) = sgs S X ++ s :: C) : sgs S2 X = sgs S X ∧ (S2 i).sg = s ∧ sgs S2 Z = C := by
  unfold sgs at h ⊢
  rw [List.map_append, List.map_cons] at h
  obtain ⟨h1, h2⟩ := List.append_inj h (by simp)
  exact ⟨h1, (List.cons.inj h2).1, (List.cons.inj h2).2⟩

theorem sgs_congr {S S' : Nat → En} {l : List Nat} (h : ∀ k ∈ l, (S' k).sg = (S k).sg) : sgs S' l = sgs S l := List.map_congr_left h

theorem sgs_upd {S : Nat → En} {i : Nat} {e : En} {l : List Nat} (h : ∀ k ∈ l, k ≠ i) : sgs (upd S i e) l = sgs S l := sgs_congr fun k hk => by rw [upd_ne _ _ (h k hk)]

/-- The slot of an entry says nothing of its segment. -/
theorem sgs_slot {S : Nat → En} {i : Nat} {v : Int} {l : List Nat} : sgs (upd S i { S i with sl := v }) l = sgs S l := sgs_congr fun k _ => by
  by_cases e : k = i
  · subst e; rw [upd_self]; rfl
  · rw [upd_ne _ _ e]

/-- Raised, not joined. -/
theorem sgs_raise {S S2 : Nat → En} {X Y Z : List Nat} {i W T : Nat} {e : En} (hX : ∀ k ∈ X, k ≠ i) (hZ : ∀ k ∈ Z, k ≠ i) (h : sgs S2 (X ++ i :: Z) = sgs S X ++ ⟨(S i).f, W, (S i).h⟩ :: (restOf (S i).sg W ++ sgs S Y))
    (he : e.sg = ⟨(S i).f, W, (S i).h + T⟩) :
    sgs (upd S2 i e) (X ++ i :: Z) = sgs S X ++ ⟨(S i).f, W, (S i).h + T⟩ :: (restOf (S i).sg W ++ sgs S Y) := by
  obtain ⟨h1, _, h3⟩ := sgs_parts h
  have e1 : sgs (upd S2 i e) (X ++ i :: Z) = sgs (upd S2 i e) X ++ (upd S2 i e i).sg :: sgs (upd S2 i e) Z := by simp [sgs]
  rw [e1, sgs_upd hX, sgs_upd hZ, h1, h3, upd_self, he]

theorem raised_apart {S : Nat → En} {X Y : List Nat} {i W T : Nat} (hne : ∀ X' q, X = X' ++ [q] → (S q).h ≠ (S i).h + T) :
    raised (sgs S X) (S i).sg (sgs S Y) W T = sgs S X ++ ⟨(S i).f, W, (S i).h + T⟩ :: (restOf (S i).sg W ++ sgs S Y) := by
  unfold raised
  rcases List.eq_nil_or_concat X with rfl | ⟨X', q, rfl⟩
  · rfl
  · have := hne X' q (by simp)
    have e : (sgs S (X'.concat q)).getLast? = some (S q).sg := by simp [sgs]
    rw [e]
    show (if (S q).h = (S i).h + T then _ else _) = _
    rw [if_neg this]
    rfl

theorem raised_join {S : Nat → En} {X' Y : List Nat} {i q W T : Nat} (he : (S q).h = (S i).h + T) :
    raised (sgs S (X' ++ [q])) (S i).sg (sgs S Y) W T = sgs S X' ++ ⟨(S q).f, (S q).n + W, (S q).h⟩ :: (restOf (S i).sg W ++ sgs S Y) := by
  unfold raised
  have e : (sgs S (X' ++ [q])).getLast? = some (S q).sg := by simp [sgs]
  rw [e]
  show (if (S q).h = (S i).h + T then _ else _) = _
  rw [if_pos he]
  have e2 : (sgs S (X' ++ [q])).dropLast = sgs S X' := by simp [sgs]
  rw [e2]
  rfl

/-- No open one of the others is of the joined one's depth. -/
theorem join_dist {n c k j : Nat} {S6 : Nat → En} {X' Z : List Nat} {q i : Nat} {R : List Sg} {N : Nat} (hfin : Inv n j c k R) (hR : R = sgs S6 X' ++ ⟨(S6 q).f, N, (S6 q).h⟩ :: sgs S6 Z) :
    ∀ m, m ∈ X' ++ q :: i :: Z → m ≠ i → m ≠ q → (S6 m).h < 2 ^ j → (S6 q).h < 2 ^ j → dep j (S6 m).h ≠ dep j (S6 q).h := by
  intro m hm h1 h2 h3 h4
  have hm' : m ∈ X' ∨ m ∈ Z := by
    simp at hm
    rcases hm with h | h | h | h
    · exact .inl h
    · exact absurd h h2
    · exact absurd h h1
    · exact .inr h
  exact hfin.distinct (A := sgs S6 X') (B := sgs S6 Z) (s := ⟨(S6 q).f, N, (S6 q).h⟩) (t := (S6 m).sg) hR (by
    rcases hm' with h | h
    · exact .inl (List.mem_map_of_mem h)
    · exact .inr (List.mem_map_of_mem h)) h4 h3

/-- What the open row of the closed one's depth says. -/
theorem Part.none {j sz i : Nat} {S : Nat → En} {live : List Nat} {O : Nat → Option Nat} (h : Part j S sz live i O) (hd : Dist j S live) (ho : (S i).h < 2 ^ j) : O (dep j (S i).h) = none := by
  cases e : O (dep j (S i).h) with
  | none => rfl
  | some k =>
    obtain ⟨h1, h2, h3, h4⟩ := (h.op _ dep_le_j k).1 e
    exact absurd h4 (hd k h1 i h.mem h2 h3 ho)

theorem upd_upd {α : Type} (S : Nat → α) (i : Nat) (a b : α) : upd (upd S i a) i b = upd S i b := by
  funext k
  by_cases e : k = i
  · subst e; rw [upd_self, upd_self]
  · rw [upd_ne _ _ e, upd_ne _ _ e, upd_ne _ _ e]

theorem lastOr_snoc (pr : Int) (X : List Nat) (q : Nat) : lastOr pr (X ++ [q]) = q := by rw [lastOr_append]; rfl

end Go.Proofs.YbulkafceFmt
