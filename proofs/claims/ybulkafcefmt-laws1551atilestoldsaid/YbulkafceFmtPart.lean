/-
  BUDDY's frontier, in plain words: the entries, their slots, the open ones by depth; what raise does to them.
-/
import Derived.Test.YbulkafceFmtLink
namespace Go.Proofs.YbulkafceFmt

def sgs (S : Nat → En) (live : List Nat) : List Sg := live.map fun i => (S i).sg

def SlotOk (j : Nat) (e : En) : Prop := e.sl = if e.h < 2 ^ j then 0 else -1

/-- The whole state. -/
structure St (j : Nat) (S : Nat → En) (sz : Nat) (live : List Nat) (O : Nat → Option Nat) : Prop where
  ch : Chain S sz live
  slot : ∀ i ∈ live, SlotOk j (S i)
  op : ∀ x, x ≤ j → ∀ i, O x = some i ↔ i ∈ live ∧ (S i).h < 2 ^ j ∧ dep j (S i).h = x

/-- .. while the entry i is closed. -/
structure Part (j : Nat) (S : Nat → En) (sz : Nat) (live : List Nat) (i : Nat) (O : Nat → Option Nat) : Prop where
  ch : Chain S sz live
  mem : i ∈ live
  sl : (S i).sl = -1
  slot : ∀ k ∈ live, k ≠ i → SlotOk j (S k)
  op : ∀ x, x ≤ j → ∀ k, O x = some k ↔ k ∈ live ∧ k ≠ i ∧ (S k).h < 2 ^ j ∧ dep j (S k).h = x

/-- No two open entries are of one depth. -/
def Dist (j : Nat) (S : Nat → En) (live : List Nat) : Prop := ∀ i ∈ live, ∀ k ∈ live, i ≠ k → (S i).h < 2 ^ j → (S k).h < 2 ^ j → dep j (S i).h ≠ dep j (S k).h

theorem Inv.dist {n j c k sz : Nat} {S : Nat → En} {live : List Nat} (h : Inv n j c k (sgs S live)) (hc : Chain S sz live) : Dist j S live := by
  intro a ha b hb hab hao hbo
  obtain ⟨X, Y, rfl⟩ := List.append_of_mem ha
  have hb' : b ∈ X ∨ b ∈ Y := by
    rcases List.mem_append.1 hb with h1 | h1
    · exact .inl h1
    · rcases List.mem_cons.1 h1 with h1 | h1
      · exact absurd h1.symm hab
      · exact .inr h1
  have := h.distinct (A := sgs S X) (B := sgs S Y) (s := (S a).sg) (t := (S b).sg) (by simp [sgs]) (by
    rcases hb' with h1 | h1
    · exact .inl (List.mem_map_of_mem h1)
    · exact .inr (List.mem_map_of_mem h1)) hao hbo
  exact fun e => this e.symm

theorem Part.close {j sz i : Nat} {S : Nat → En} {live : List Nat} {O : Nat → Option Nat} (h : St j S sz live O) (hd : Dist j S live) (hi : i ∈ live) :
    Part j (upd S i { S i with sl := -1 }) sz live i (if (S i).h < 2 ^ j then upd O (dep j (S i).h) none else O) := by
  have hS : ∀ k, k ≠ i → upd S i { S i with sl := -1 } k = S k := fun k hk => upd_ne S _ hk
  refine ⟨h.ch.congr fun k _ => ?_, hi, by rw [upd_self], fun k hk hne => by rw [hS k hne]; exact h.slot k hk, fun x hx k => ?_⟩
  · by_cases e : k = i
    · subst e; rw [upd_self]; exact ⟨rfl, rfl⟩
    · rw [hS k e]; exact ⟨rfl, rfl⟩
  · by_cases ho : (S i).h < 2 ^ j
    · rw [if_pos ho]
      by_cases hxe : x = dep j (S i).h
      · subst hxe
        rw [upd_self]
        refine ⟨fun e => absurd e (by simp), fun ⟨h1, h2, h3, h4⟩ => ?_⟩
        rw [hS k h2] at h3 h4
        exact absurd h4 (hd k h1 i hi h2 h3 ho)
      · rw [upd_ne _ _ hxe, h.op x hx k]
        refine ⟨fun ⟨h1, h2, h3⟩ => ?_, fun ⟨h1, h2, h3, h4⟩ => ?_⟩
        · have hne : k ≠ i := fun e => hxe (by rw [← h3, e])
          rw [hS k hne]
          exact ⟨h1, hne, h2, h3⟩
        · rw [hS k h2] at h3 h4
          exact ⟨h1, h3, h4⟩
    · rw [if_neg ho, h.op x hx k]
      refine ⟨fun ⟨h1, h2, h3⟩ => ?_, fun ⟨h1, h2, h3, h4⟩ => ?_⟩
      · have hne : k ≠ i := fun e => ho (by rw [← e]; exact h2)
        rw [hS k hne]
        exact ⟨h1, hne, h2, h3⟩
      · rw [hS k h2] at h3 h4
        exact ⟨h1, h3, h4⟩

/-- Opened again. -/
theorem Part.reopen {j sz i : Nat} {S S' : Nat → En} {live : List Nat} {O : Nat → Option Nat} (h : Part j S sz live i O) (hd : Dist j S live)
    (hS' : S' = upd S i { S i with sl := if (S i).h < 2 ^ j then 0 else -1 }) :
    St j S' sz live (if (S i).h < 2 ^ j then upd O (dep j (S i).h) (some i) else O) := by
  subst hS'
  have hS : ∀ k, k ≠ i → upd S i { S i with sl := if (S i).h < 2 ^ j then 0 else -1 } k = S k := fun k hk => upd_ne S _ hk
  have hh : ∀ k, (upd S i { S i with sl := if (S i).h < 2 ^ j then 0 else -1 } k).h = (S k).h := fun k => by
    by_cases e : k = i
    · subst e; rw [upd_self]
    · rw [hS k e]
  refine ⟨h.ch.congr fun k _ => ?_, fun k hk => ?_, fun x hx k => ?_⟩
  · by_cases e : k = i
    · subst e; rw [upd_self]; exact ⟨rfl, rfl⟩
    · rw [hS k e]; exact ⟨rfl, rfl⟩
  · by_cases e : k = i
    · subst e; rw [upd_self]; rfl
    · rw [hS k e]; exact h.slot k hk e
  · rw [hh k]
    by_cases ho : (S i).h < 2 ^ j
    · rw [if_pos ho]
      by_cases hxe : x = dep j (S i).h
      · subst hxe
        rw [upd_self]
        refine ⟨fun e => ?_, fun ⟨h1, h2, h3⟩ => ?_⟩
        · cases e; exact ⟨h.mem, ho, rfl⟩
        · by_cases e : k = i
          · rw [e]
          · exact absurd h3 (hd k h1 i h.mem e h2 ho)
      · rw [upd_ne _ _ hxe, h.op x hx k]
        refine ⟨fun ⟨h1, _, h3, h4⟩ => ⟨h1, h3, h4⟩, fun ⟨h1, h2, h3⟩ => ⟨h1, fun e => hxe (by rw [← h3, e]), h2, h3⟩⟩
    · rw [if_neg ho, h.op x hx k]
      exact ⟨fun ⟨h1, _, h3, h4⟩ => ⟨h1, h3, h4⟩, fun ⟨h1, h2, h3⟩ => ⟨h1, fun e => ho (by rw [← e]; exact h2), h2, h3⟩⟩

/-- The closed entry's own numbers may turn. -/
theorem Part.turn {j sz i : Nat} {S : Nat → En} {live : List Nat} {O : Nat → Option Nat} (h : Part j S sz live i O) (e : En) (he : e.p = (S i).p ∧ e.x = (S i).x ∧ e.sl = (S i).sl) : Part j (upd S i e) sz live i O := by
  have hS : ∀ k, k ≠ i → upd S i e k = S k := fun k hk => upd_ne S _ hk
  refine ⟨h.ch.congr fun k _ => ?_, h.mem, by rw [upd_self, he.2.2, h.sl], fun k hk hne => by rw [hS k hne]; exact h.slot k hk hne, fun x hx k => ?_⟩
  · by_cases hk : k = i
    · subst hk; rw [upd_self]; exact ⟨he.1, he.2.1⟩
    · rw [hS k hk]; exact ⟨rfl, rfl⟩
  · rw [h.op x hx k]
    refine ⟨fun ⟨h1, h2, h3, h4⟩ => ?_, fun ⟨h1, h2, h3, h4⟩ => ?_⟩
    · rw [hS k h2]; exact ⟨h1, h2, h3, h4⟩
    · rw [hS k h2] at h3 h4; exact ⟨h1, h2, h3, h4⟩

/-- The entry behind gets another before it. -/
def linkP (S : Nat → En) (nx : Int) (v : Int) : Nat → En := if 0 ≤ nx then upd S nx.toNat { S nx.toNat with p := v } else S

theorem linkP_at (S : Nat → En) (Y : List Nat) (v : Int) (k : Nat) : linkP S (hdOr Y (-1)) v k = if (k : Int) = hdOr Y (-1) then { S k with p := v } else S k := by
  unfold linkP
  cases Y with
  | nil =>
    have e1 : ¬ (0 : Int) ≤ hdOr [] (-1) := by simp [hdOr]
    have e2 : ¬ (k : Int) = hdOr [] (-1) := by simp only [hdOr]; omega
    rw [if_neg e1, if_neg e2]
  | cons y r =>
    have e1 : (0 : Int) ≤ hdOr (y :: r) (-1) := by simp only [hdOr]; omega
    rw [if_pos e1]
    by_cases e : k = y
    · have e2 : (k : Int) = hdOr (y :: r) (-1) := by simp only [hdOr]; omega
      rw [if_pos e2]
      have e3 : (hdOr (y :: r) (-1)).toNat = k := by simp only [hdOr]; omega
      rw [e3, upd_self]
    · have e2 : ¬ (k : Int) = hdOr (y :: r) (-1) := by simp only [hdOr]; omega
      have e3 : (hdOr (y :: r) (-1)).toNat = y := by simp only [hdOr]; omega
      rw [if_neg e2, e3, upd_ne _ _ e]

/-- The array behind the segment i is parted: W nodes stay its own. -/
def splitS (S : Nat → En) (sz i W : Nat) : Nat → En :=
  upd (linkP (upd S sz ⟨(S i).f + W, (S i).n - W, (S i).h, i, (S i).x, 0⟩) (S i).x sz) i { S i with x := sz, n := W }

theorem Part.split {j sz i W : Nat} {S : Nat → En} {X Y : List Nat} {O : Nat → Option Nat} (h : Part j S sz (X ++ i :: Y) i O) (ho : (S i).h < 2 ^ j)
    (hd : ∀ k, k ∈ X ++ i :: Y → k ≠ i → (S k).h < 2 ^ j → dep j (S k).h ≠ dep j (S i).h) :
    Part j (splitS S sz i W) (sz + 1) (X ++ i :: sz :: Y) i (upd O (dep j (S i).h) (some sz)) ∧
    sgs (splitS S sz i W) (X ++ i :: sz :: Y) = sgs S X ++ ⟨(S i).f, W, (S i).h⟩ :: ⟨(S i).f + W, (S i).n - W, (S i).h⟩ :: sgs S Y := by
  have hx := h.ch.at.2
  have hlt := h.ch.lt
  obtain ⟨n1, n2, n3⟩ := h.ch.ne
  have hisz : i ≠ sz := by have := hlt i (by simp); omega
  have hXsz : ∀ k ∈ X, k ≠ sz := fun k hk => by have := hlt k (by simp [hk]); omega
  have hYsz : ∀ k ∈ Y, k ≠ sz := fun k hk => by have := hlt k (by simp [hk]); omega
  have hYm : ∀ k : Nat, (k : Int) = hdOr Y (-1) → k ∈ Y := by
    intro k hk
    cases Y with
    | nil => simp only [hdOr] at hk; omega
    | cons y r =>
      simp only [hdOr] at hk
      obtain rfl : k = y := by omega
      simp
  have sI : splitS S sz i W i = { S i with x := sz, n := W } := by unfold splitS; rw [upd_self]
  have sZ : splitS S sz i W sz = ⟨(S i).f + W, (S i).n - W, (S i).h, i, (S i).x, 0⟩ := by
    unfold splitS
    rw [upd_ne _ _ (fun e => hisz e.symm), hx, linkP_at, if_neg (fun e => hYsz sz (hYm sz e) rfl), upd_self]
  have sO : ∀ k, k ≠ i → k ≠ sz → splitS S sz i W k = if (k : Int) = hdOr Y (-1) then { S k with p := sz } else S k := by
    intro k h1 h2
    unfold splitS
    rw [upd_ne _ _ h1, hx, linkP_at, upd_ne _ _ h2]
  have sX : ∀ k ∈ X, splitS S sz i W k = S k := by
    intro k hk
    rw [sO k (n1 k hk) (hXsz k hk)]
    exact if_neg (fun e => n3 k hk k (hYm k e) rfl)
  have sY : ∀ k ∈ Y, splitS S sz i W k = if (k : Int) = hdOr Y (-1) then { S k with p := sz } else S k := fun k hk => sO k (n2 k hk) (hYsz k hk)
  have sYh : ∀ k ∈ Y, (splitS S sz i W k).h = (S k).h ∧ (splitS S sz i W k).sl = (S k).sl ∧ (splitS S sz i W k).x = (S k).x ∧ (splitS S sz i W k).sg = (S k).sg := by
    intro k hk
    rw [sY k hk]
    split <;> exact ⟨rfl, rfl, rfl, rfl⟩
  have hold : ∀ k, k ∈ X ++ i :: sz :: Y → k ≠ i → k ≠ sz → k ∈ X ++ i :: Y ∧ (splitS S sz i W k).h = (S k).h ∧ (splitS S sz i W k).sl = (S k).sl := by
    intro k hk h1 h2
    simp at hk
    rcases hk with hk | hk | hk | hk
    · rw [sX k hk]; exact ⟨by simp [hk], rfl, rfl⟩
    · exact absurd hk h1
    · exact absurd hk h2
    · exact ⟨by simp [hk], (sYh k hk).1, (sYh k hk).2.1⟩
  refine ⟨⟨?_, by simp, by rw [sI]; exact h.sl, fun k hk hne => ?_, fun x hxj k => ?_⟩, ?_⟩
  · refine h.ch.split (fun k hk => by rw [sX k hk]; exact ⟨rfl, rfl⟩) (by rw [sI]; exact ⟨rfl, rfl⟩) (by rw [sZ]; exact ⟨rfl, rfl⟩) (fun k hk => ⟨(sYh k hk).2.2.1, ?_⟩)
    rw [sY k hk]
    split <;> rfl
  · by_cases e : k = sz
    · subst e
      unfold SlotOk
      rw [sZ]
      simp [ho]
    · obtain ⟨h1, h2, h3⟩ := hold k hk hne e
      unfold SlotOk
      rw [h2, h3]
      exact h.slot k h1 hne
  · by_cases hxe : x = dep j (S i).h
    · subst hxe
      rw [upd_self]
      refine ⟨fun e => ?_, fun ⟨h1, h2, h3, h4⟩ => ?_⟩
      · obtain rfl : sz = k := Option.some.inj e
        rw [sZ]
        exact ⟨by simp, fun e => hisz e.symm, ho, rfl⟩
      · by_cases e : k = sz
        · rw [e]
        · obtain ⟨g1, g2, _⟩ := hold k h1 h2 e
          rw [g2] at h3 h4
          exact absurd h4 (hd k g1 h2 h3)
    · rw [upd_ne _ _ hxe, h.op x hxj k]
      refine ⟨fun ⟨h1, h2, h3, h4⟩ => ?_, fun ⟨h1, h2, h3, h4⟩ => ?_⟩
      · have hks : k ≠ sz := by have := hlt k h1; omega
        have hk' : k ∈ X ++ i :: sz :: Y := by simp at h1 ⊢; rcases h1 with h | h | h <;> simp [h]
        obtain ⟨_, g2, _⟩ := hold k hk' h2 hks
        rw [g2]
        exact ⟨hk', h2, h3, h4⟩
      · have hks : k ≠ sz := fun e => by
          subst e
          rw [sZ] at h4
          exact hxe h4.symm
        obtain ⟨g1, g2, _⟩ := hold k h1 h2 hks
        rw [g2] at h3 h4
        exact ⟨g1, h2, h3, h4⟩
  · unfold sgs
    rw [List.map_append, List.map_cons, List.map_cons, sI, sZ]
    congr 1
    · exact List.map_congr_left fun k hk => by rw [sX k hk]
    · congr 1
      congr 1
      exact List.map_congr_left fun k hk => (sYh k hk).2.2.2

/-- The array behind q has taken the segment i in. -/
def joinS (S : Nat → En) (q i : Nat) : Nat → En := linkP (upd S q { S q with n := (S q).n + (S i).n, x := (S i).x, sl := -1 }) (S i).x q

theorem Part.join {j sz q i : Nat} {S : Nat → En} {X Y : List Nat} {O : Nat → Option Nat} (h : Part j S sz (X ++ q :: i :: Y) i O)
    (hd : ∀ k, k ∈ X ++ q :: i :: Y → k ≠ i → k ≠ q → (S k).h < 2 ^ j → (S q).h < 2 ^ j → dep j (S k).h ≠ dep j (S q).h) :
    Part j (joinS S q i) sz (X ++ q :: Y) q (if (S q).h < 2 ^ j then upd O (dep j (S q).h) none else O) ∧
    sgs (joinS S q i) (X ++ q :: Y) = sgs S X ++ ⟨(S q).f, (S q).n + (S i).n, (S q).h⟩ :: sgs S Y := by
  have hch := h.ch
  rw [show X ++ q :: i :: Y = (X ++ [q]) ++ i :: Y by simp] at hch
  have hx := hch.at.2
  obtain ⟨n1, n2, n3⟩ := h.ch.ne
  obtain ⟨m1, m2, m3⟩ := hch.ne
  have hqi : q ≠ i := m1 q (by simp)
  have hYm : ∀ k : Nat, (k : Int) = hdOr Y (-1) → k ∈ Y := by
    intro k hk
    cases Y with
    | nil => simp only [hdOr] at hk; omega
    | cons y r =>
      simp only [hdOr] at hk
      obtain rfl : k = y := by omega
      simp
  have hYq : ∀ k ∈ Y, k ≠ q := fun k hk => n2 k (by simp [hk])
  have sQ : joinS S q i q = { S q with n := (S q).n + (S i).n, x := (S i).x, sl := -1 } := by
    unfold joinS
    rw [hx, linkP_at, upd_self]
    exact if_neg (fun e => hYq q (hYm q e) rfl)
  have sO : ∀ k, k ≠ q → joinS S q i k = if (k : Int) = hdOr Y (-1) then { S k with p := q } else S k := by
    intro k h1
    unfold joinS
    rw [hx, linkP_at, upd_ne _ _ h1]
  have sX : ∀ k ∈ X, joinS S q i k = S k := by
    intro k hk
    rw [sO k (n1 k hk)]
    exact if_neg (fun e => n3 k hk k (by simp [hYm k e]) rfl)
  have sYh : ∀ k ∈ Y, (joinS S q i k).h = (S k).h ∧ (joinS S q i k).sl = (S k).sl ∧ (joinS S q i k).x = (S k).x ∧ (joinS S q i k).sg = (S k).sg := by
    intro k hk
    rw [sO k (hYq k hk)]
    split <;> exact ⟨rfl, rfl, rfl, rfl⟩
  have hold : ∀ k, k ∈ X ++ q :: Y → k ≠ q → k ∈ X ++ q :: i :: Y ∧ k ≠ i ∧ (joinS S q i k).h = (S k).h ∧ (joinS S q i k).sl = (S k).sl := by
    intro k hk h1
    simp at hk
    rcases hk with hk | hk | hk
    · rw [sX k hk]; exact ⟨by simp [hk], m1 k (by simp [hk]), rfl, rfl⟩
    · exact absurd hk h1
    · exact ⟨by simp [hk], m2 k hk, (sYh k hk).1, (sYh k hk).2.1⟩
  have hback : ∀ k, k ∈ X ++ q :: i :: Y → k ≠ i → k ∈ X ++ q :: Y := by
    intro k hk h1
    simp at hk ⊢
    rcases hk with hk | hk | hk | hk
    · simp [hk]
    · simp [hk]
    · exact absurd hk h1
    · simp [hk]
  refine ⟨⟨?_, by simp, by rw [sQ], fun k hk hne => ?_, fun x hxj k => ?_⟩, ?_⟩
  · refine h.ch.join (fun k hk => by rw [sX k hk]; exact ⟨rfl, rfl⟩) (by rw [sQ]; exact ⟨rfl, rfl⟩) (fun k hk => ⟨(sYh k hk).2.2.1, ?_⟩)
    rw [sO k (hYq k hk)]
    split <;> rfl
  · obtain ⟨g1, g2, g3, g4⟩ := hold k hk hne
    unfold SlotOk
    rw [g3, g4]
    exact h.slot k g1 g2
  · have key : ∀ k, k ≠ q → ((k ∈ X ++ q :: i :: Y ∧ k ≠ i ∧ (S k).h < 2 ^ j ∧ dep j (S k).h = x) ↔ (k ∈ X ++ q :: Y ∧ k ≠ q ∧ (joinS S q i k).h < 2 ^ j ∧ dep j (joinS S q i k).h = x)) := by
      intro k hkq
      refine ⟨fun ⟨h1, h2, h3, h4⟩ => ?_, fun ⟨h1, h2, h3, h4⟩ => ?_⟩
      · have hk' := hback k h1 h2
        obtain ⟨_, _, g3, _⟩ := hold k hk' hkq
        rw [g3]
        exact ⟨hk', hkq, h3, h4⟩
      · obtain ⟨g1, g2, g3, _⟩ := hold k h1 h2
        rw [g3] at h3 h4
        exact ⟨g1, g2, h3, h4⟩
    by_cases hqo : (S q).h < 2 ^ j
    · rw [if_pos hqo]
      by_cases hxe : x = dep j (S q).h
      · subst hxe
        rw [upd_self]
        refine ⟨fun e => absurd e (by simp), fun hr => ?_⟩
        obtain ⟨g1, g2, g3, g4⟩ := (key k hr.2.1).2 hr
        exact absurd g4 (hd k g1 g2 hr.2.1 g3 hqo)
      · rw [upd_ne _ _ hxe, h.op x hxj k]
        refine ⟨fun hl => (key k fun e => hxe (by rw [← hl.2.2.2, e])).1 hl, fun hr => (key k hr.2.1).2 hr⟩
    · rw [if_neg hqo, h.op x hxj k]
      refine ⟨fun hl => (key k fun e => hqo (by rw [← e]; exact hl.2.2.1)).1 hl, fun hr => (key k hr.2.1).2 hr⟩
  · unfold sgs
    rw [List.map_append, List.map_cons, sQ]
    congr 1
    · exact List.map_congr_left fun k hk => by rw [sX k hk]
    · congr 1
      exact List.map_congr_left fun k hk => (sYh k hk).2.2.2

end Go.Proofs.YbulkafceFmt
