/-
  BUDDY's frontier, in plain words: the segments as an array of linked entries.
-/
import Derived.Test.YbulkafceFmtJoin
namespace Go.Proofs.YbulkafceFmt

/-- An entry of the array: first, nodes, height, prev, next, slot. -/
structure En where
  f : Nat
  n : Nat
  h : Nat
  p : Int
  x : Int
  sl : Int

def En.sg (e : En) : Sg := ⟨e.f, e.n, e.h⟩

def upd {α : Type} (S : Nat → α) (i : Nat) (e : α) : Nat → α := fun k => if k = i then e else S k
theorem upd_self {α : Type} (S : Nat → α) (i : Nat) (e : α) : upd S i e i = e := by simp [upd]
theorem upd_ne {α : Type} (S : Nat → α) {i k : Nat} (e : α) (h : k ≠ i) : upd S i e k = S k := by simp [upd, h]

def hdOr : List Nat → Int → Int
  | [], nx => nx
  | k :: _, _ => k
def lastOr : Int → List Nat → Int
  | pr, [] => pr
  | _, i :: r => lastOr i r

/-- The entries of the list are linked in its order, 'pr' before them, 'nx' behind them. -/
def LkTo (S : Nat → En) : Int → List Nat → Int → Prop
  | _, [], _ => True
  | pr, i :: r, nx => (S i).p = pr ∧ (S i).x = hdOr r nx ∧ LkTo S i r nx

theorem hdOr_append (X Z : List Nat) (nx : Int) : hdOr (X ++ Z) nx = hdOr X (hdOr Z nx) := by cases X <;> rfl
theorem lastOr_append (pr : Int) (X Z : List Nat) : lastOr pr (X ++ Z) = lastOr (lastOr pr X) Z := by
  induction X generalizing pr with
  | nil => rfl
  | cons i r ih => exact ih i

theorem LkTo.append {S : Nat → En} {pr nx : Int} {X Z : List Nat} : LkTo S pr (X ++ Z) nx ↔ LkTo S pr X (hdOr Z nx) ∧ LkTo S (lastOr pr X) Z nx := by
  induction X generalizing pr with
  | nil => simp [LkTo, lastOr]
  | cons i r ih => simp only [List.cons_append, LkTo, lastOr, ih, hdOr_append, and_assoc]

theorem LkTo.congr {S S' : Nat → En} {pr nx : Int} {X : List Nat} (h : LkTo S pr X nx) (e : ∀ i ∈ X, (S' i).p = (S i).p ∧ (S' i).x = (S i).x) : LkTo S' pr X nx := by
  induction X generalizing pr with
  | nil => trivial
  | cons i r ih =>
    obtain ⟨h1, h2, h3⟩ := h
    have := e i (by simp)
    exact ⟨by rw [this.1, h1], by rw [this.2, h2], ih h3 (fun k hk => e k (by simp [hk]))⟩

/-- The list's last entry points elsewhere. -/
theorem LkTo.relast {S S' : Nat → En} {pr nx nx' : Int} {X : List Nat} {q : Nat} (h : LkTo S pr (X ++ [q]) nx) (e : ∀ i ∈ X, (S' i).p = (S i).p ∧ (S' i).x = (S i).x) (hp : (S' q).p = (S q).p) (hx : (S' q).x = nx') : LkTo S' pr (X ++ [q]) nx' := by
  obtain ⟨h1, h2, _, _⟩ := LkTo.append.1 h
  exact LkTo.append.2 ⟨h1.congr e, by rw [hp, h2], hx, trivial⟩

/-- The list's first entry has another before it. -/
theorem LkTo.refirst {S S' : Nat → En} {pr pr' nx : Int} {X : List Nat} {q : Nat} (h : LkTo S pr (q :: X) nx) (e : ∀ i ∈ X, (S' i).p = (S i).p ∧ (S' i).x = (S i).x) (hp : (S' q).p = pr') (hx : (S' q).x = (S q).x) : LkTo S' pr' (q :: X) nx := by
  obtain ⟨_, h2, h3⟩ := h
  exact ⟨hp, by rw [hx, h2], h3.congr e⟩

structure Chain (S : Nat → En) (sz : Nat) (live : List Nat) : Prop where
  nd : live.Nodup
  lt : ∀ i ∈ live, i < sz
  lk : LkTo S (-1) live (-1)

theorem Chain.congr {S S' : Nat → En} {sz : Nat} {live : List Nat} (h : Chain S sz live) (e : ∀ i ∈ live, (S' i).p = (S i).p ∧ (S' i).x = (S i).x) : Chain S' sz live := ⟨h.nd, h.lt, h.lk.congr e⟩

/-- What stands before and behind an entry. -/
theorem Chain.at {S : Nat → En} {sz : Nat} {X Y : List Nat} {i : Nat} (h : Chain S sz (X ++ i :: Y)) : (S i).p = lastOr (-1) X ∧ (S i).x = hdOr Y (-1) := by
  obtain ⟨_, h1, h2, _⟩ := LkTo.append.1 h.lk
  exact ⟨h1, h2⟩

theorem Chain.ne {S : Nat → En} {sz : Nat} {X Y : List Nat} {i : Nat} (h : Chain S sz (X ++ i :: Y)) : (∀ k ∈ X, k ≠ i) ∧ (∀ k ∈ Y, k ≠ i) ∧ ∀ k ∈ X, ∀ m ∈ Y, k ≠ m := by
  obtain ⟨_, h2, h3⟩ := List.nodup_append.1 h.nd
  obtain ⟨h4, _⟩ := List.nodup_cons.1 h2
  exact ⟨fun k hk => h3 k hk i (by simp), fun k hk e => h4 (e ▸ hk), fun k hk m hm => h3 k hk m (by simp [hm])⟩

/-- A new entry behind i. -/
theorem Chain.split {S S' : Nat → En} {sz : Nat} {X Y : List Nat} {i : Nat} (h : Chain S sz (X ++ i :: Y))
    (hX : ∀ k ∈ X, (S' k).p = (S k).p ∧ (S' k).x = (S k).x) (hi : (S' i).p = (S i).p ∧ (S' i).x = sz) (hz : (S' sz).p = i ∧ (S' sz).x = (S i).x)
    (hY : ∀ k ∈ Y, (S' k).x = (S k).x ∧ ((S' k).p = if (k : Int) = hdOr Y (-1) then (sz : Int) else (S k).p)) : Chain S' (sz + 1) (X ++ i :: sz :: Y) := by
  have hlt := h.lt
  have hn := h.ne
  obtain ⟨l1, l2, l3, l4⟩ := LkTo.append.1 h.lk
  refine ⟨?_, fun k hk => ?_, LkTo.append.2 ⟨l1.congr hX, by rw [hi.1, l2], hi.2, hz.1, by rw [hz.2, l3], ?_⟩⟩
  · have hsz : ∀ k ∈ X ++ i :: Y, k ≠ sz := fun k hk e => by have := hlt k hk; omega
    obtain ⟨a, b, c⟩ := List.nodup_append.1 h.nd
    obtain ⟨d, e⟩ := List.nodup_cons.1 b
    refine List.nodup_append.2 ⟨a, List.nodup_cons.2 ⟨?_, List.nodup_cons.2 ⟨fun hm => hsz sz (by simp [hm]) rfl, e⟩⟩, fun k hk m hm => ?_⟩
    · simp only [List.mem_cons, not_or]
      exact ⟨hsz i (by simp), d⟩
    · rcases List.mem_cons.1 hm with rfl | hm
      · exact c k hk m (by simp)
      · rcases List.mem_cons.1 hm with rfl | hm
        · exact hsz k (by simp [hk])
        · exact c k hk m (by simp [hm])
  · have : k ∈ X ++ i :: Y ∨ k = sz := by
      simp at hk ⊢
      rcases hk with h | h | h | h <;> simp [h]
    rcases this with hk | hk
    · have := hlt k hk; omega
    · omega
  · cases Y with
    | nil => trivial
    | cons y r =>
      have hy := hY y (by simp)
      refine l4.refirst (fun k hk => ?_) (by rw [hy.2]; simp [hdOr]) hy.1
      have := hY k (by simp [hk])
      have hne : k ≠ y := by
        obtain ⟨_, b, _⟩ := List.nodup_append.1 h.nd
        obtain ⟨_, e⟩ := List.nodup_cons.1 b
        obtain ⟨f, _⟩ := List.nodup_cons.1 e
        exact fun e => f (e ▸ hk)
      refine ⟨?_, this.1⟩
      rw [this.2]
      exact if_neg (fun e => hne (by simp only [hdOr] at e; omega))

/-- The entry behind q taken out. -/
theorem Chain.join {S S' : Nat → En} {sz : Nat} {X Y : List Nat} {q i : Nat} (h : Chain S sz (X ++ q :: i :: Y))
    (hX : ∀ k ∈ X, (S' k).p = (S k).p ∧ (S' k).x = (S k).x) (hq : (S' q).p = (S q).p ∧ (S' q).x = (S i).x)
    (hY : ∀ k ∈ Y, (S' k).x = (S k).x ∧ ((S' k).p = if (k : Int) = hdOr Y (-1) then (q : Int) else (S k).p)) : Chain S' sz (X ++ q :: Y) := by
  obtain ⟨l1, l2, l3, l4, l5, l6⟩ := LkTo.append.1 h.lk
  obtain ⟨a, b, c⟩ := List.nodup_append.1 h.nd
  obtain ⟨d, e⟩ := List.nodup_cons.1 b
  obtain ⟨f, g⟩ := List.nodup_cons.1 e
  refine ⟨List.nodup_append.2 ⟨a, List.nodup_cons.2 ⟨fun hm => d (by simp [hm]), g⟩, fun k hk m hm => ?_⟩, fun k hk => ?_, LkTo.append.2 ⟨l1.congr hX, by rw [hq.1, l2], by rw [hq.2, l5], ?_⟩⟩
  · rcases List.mem_cons.1 hm with rfl | hm
    · exact c k hk m (by simp)
    · exact c k hk m (by simp [hm])
  · exact h.lt k (by simp at hk ⊢; rcases hk with h | h | h <;> simp [h])
  · cases Y with
    | nil => trivial
    | cons y r =>
      have hy := hY y (by simp)
      refine l6.refirst (fun k hk => ?_) (by rw [hy.2]; simp [hdOr]) hy.1
      have := hY k (by simp [hk])
      have hne : k ≠ y := by
        obtain ⟨f', _⟩ := List.nodup_cons.1 g
        exact fun e => f' (e ▸ hk)
      refine ⟨?_, this.1⟩
      rw [this.2]
      exact if_neg (fun e => hne (by simp only [hdOr] at e; omega))

end Go.Proofs.YbulkafceFmt
