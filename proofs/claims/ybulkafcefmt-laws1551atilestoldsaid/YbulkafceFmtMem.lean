/-
  BUDDY's frontier in memory.
-/
import Derived.Test.YbulkafceFmtPart
import Derived.WalkKit
import Derived.WalkSpells
import Derived.WalkLawsBesides
import Derived.Laws.CopyOwn
import Derived.Below
import Derived.OwnWalk
namespace Go.Proofs.YbulkafceFmt
open Go.RowKit

/-- A block of N cells of type T: those of which K says so are F's. -/
def Rw (w : World) (b T N : Nat) (K : Nat → Prop) (F : Nat → Value) : Prop := ∃ cs, w.heap[b]? = some (.cells cs T (0, 0)) ∧ cs.size = N ∧ ∀ k, K k → cs[k]? = some (F k)

theorem lt_heap {w : World} {b : Nat} {o : Obj} (h : w.heap[b]? = some o) : b < w.heap.size := (Array.getElem?_eq_some_iff.1 h).1

section
variable {w w' : World} {b T N : Nat} {K : Nat → Prop} {F : Nat → Value}
theorem Rw.lt (h : Rw w b T N K F) : b < w.heap.size := by obtain ⟨cs, hb, _⟩ := h; exact lt_heap hb
theorem Rw.cell (h : Rw w b T N K F) {k : Nat} (hk : K k) : w.cell? ⟨b, k, none⟩ = some (F k) := by
  obtain ⟨cs, hb, _, hc⟩ := h
  simp [World.cell?, hb, hc k hk]
theorem Rw.free (h : Rw w b T N K F) (k : Nat) : w.frozen? ⟨b, k, none⟩ = false := by
  obtain ⟨cs, hb, _⟩ := h
  simp [World.frozen?, hb]
theorem Rw.keep (h : Rw w b T N K F) (e : w'.heap[b]? = w.heap[b]?) : Rw w' b T N K F := by
  obtain ⟨cs, hb, hc⟩ := h
  exact ⟨cs, by rw [e]; exact hb, hc⟩
theorem Rw.congr {F' : Nat → Value} (h : Rw w b T N K F) (e : ∀ k, K k → F k = F' k) : Rw w b T N K F' := by
  obtain ⟨cs, hb, hs, hc⟩ := h
  exact ⟨cs, hb, hs, fun k hk => by rw [← e k hk]; exact hc k hk⟩
theorem Rw.set (h : Rw w b T N K F) {l : Nat} (hl : K l) (v : Value) : Rw (w.setCell ⟨b, l, none⟩ v) b T N K (upd F l v) := by
  obtain ⟨cs, hb, hs, hc⟩ := h
  refine ⟨cs.setIfInBounds l v, ?_, by simpa using hs, fun k hk => ?_⟩
  · simp only [World.setCell, Array.getElem?_modify, if_true, hb, Option.map_some]; simp
  · rw [Array.getElem?_setIfInBounds]
    have hlt : l < cs.size := (Array.getElem?_eq_some_iff.1 (hc l hl)).1
    by_cases e : k = l
    · subst e; simp [hlt, upd]
    · rw [if_neg (fun h => e h.symm), upd_ne _ _ e]; exact hc k hk
theorem Rw.setOther (h : Rw w b T N K F) {c o : Nat} (hne : b ≠ c) (v : Value) : Rw (w.setCell ⟨c, o, none⟩ v) b T N K F := h.keep (Below.heap_setCell _ _ _ _ hne)
theorem Rw.alloc (h : Rw w b T N K F) (o : Obj) : Rw (w.alloc o) b T N K F := h.keep (Below.heap_alloc _ _ _ h.lt)
theorem Rw.ne {b' T' N' : Nat} {K' : Nat → Prop} {F' : Nat → Value} (h : Rw w b T N K F) (h' : Rw w b' T' N' K' F') (ht : T ≠ T') : b ≠ b' := by
  obtain ⟨cs, hb, _⟩ := h
  obtain ⟨cs', hb', _⟩ := h'
  intro e
  subst e
  rw [hb] at hb'
  simp at hb'
  exact ht hb'.2
end

/-- Storing what is there turns nothing. -/
theorem setCell_same {w : World} {b o : Nat} {v : Value} (h : w.cell? ⟨b, o, none⟩ = some v) : w.setCell ⟨b, o, none⟩ v = w := by
  unfold World.cell? at h
  split at h
  · rename_i cs t fr hb
    simp at h
    have hcs : cs.setIfInBounds o v = cs := by
      refine Array.ext_getElem? fun k => ?_
      rw [Array.getElem?_setIfInBounds]
      split
      · rename_i e; subst e
        split
        · rw [h]
        · rename_i hk; rw [Array.getElem?_eq_none (by omega)] at h; cases h
      · rfl
    have hh : w.heap.modify b (fun ob => match ob with | .cells c e f => .cells (c.setIfInBounds o v) e f | other => other) = w.heap := by
      refine Array.ext_getElem? fun k => ?_
      rw [Array.getElem?_modify]
      split
      · rename_i e; subst e
        simp at hb
        rw [hb]
        simp [hcs]
      · rfl
    unfold World.setCell
    simp only
    exact congrArg (fun hp => { w with heap := hp }) hh
  · cases h

def fld (e : En) : Nat → Value
  | 0 => .int .i64 e.f
  | 1 => .int .i64 e.n
  | 2 => .int .i64 e.h
  | 3 => .int .i64 e.p
  | 4 => .int .i64 e.x
  | _ => .int .i64 e.sl

def cnt : Option Nat → Nat
  | none => 0
  | some _ => 1
def lst : Option Nat → List Value
  | none => []
  | some i => [.int .i64 (i : Int)]

/-- The room's own cells. -/
def roomF (sb sz scap ob ocap j : Nat) : Nat → Value
  | 17 => .slice (some ⟨sb, 0, none⟩) sz scap
  | 18 => .slice (some ⟨ob, 0, none⟩) (j + 1) ocap
  | 19 => .int .i64 ((2 ^ j : Nat) : Int)
  | _ => .int .i64 (j : Int)

structure FM (w : World) (B rb sb scap ob ocap oN : Nat) (R : Nat → Value) (S : Nat → En) (sz : Nat) (O : Nat → Option Nat) (j : Nat) : Prop where
  room : Rw w rb 41 21 (fun k => 17 ≤ k ∧ k ≤ 20) (roomF sb sz scap ob ocap j)
  seg : Rw w sb 56 (scap * 6) (fun q => q < sz * 6) (fun q => fld (S (q / 6)) (q % 6))
  opn : Rw w ob 24 oN (fun x => x ≤ j) R
  inner : ∀ x, x ≤ j → w.ownsRow B 3 1 (R x) (cnt (O x)) (lst (O x))
  apart : ∀ x y, x ≤ j → y ≤ j → x ≠ y → ∀ b, (R x).ownBlock = some b → (R y).ownBlock ≠ some b
  szc : sz ≤ scap
  scm : scap ≤ maxLen
  joc : j + 1 ≤ ocap
  Bb : B ≤ rb ∧ B ≤ sb ∧ B ≤ ob

section
variable {w w' : World} {B rb sb scap ob ocap oN : Nat} {R : Nat → Value} {S : Nat → En} {sz : Nat} {O : Nat → Option Nat} {j : Nat}

theorem own_row {e : TypeId} {v : Value} {n : Nat} {xs : List Value} (h : w.ownsRow B e 1 v n xs) {b : Nat} (hb : v.ownBlock = some b) : ∃ cur, w.heap[b]? = some (.cells cur e (0, 0)) := by
  rcases h.2 with ⟨rfl, _⟩ | ⟨g, cap, cur, rfl, _, hg, _⟩
  · cases hb
  · simp [Value.ownBlock] at hb
    subst hb
    exact ⟨cur, hg⟩

theorem own_keep {e : TypeId} {v : Value} {n : Nat} {xs : List Value} (h : w.ownsRow B e 1 v n xs) (hk : ∀ b, v.ownBlock = some b → w'.heap[b]? = w.heap[b]?) : w'.ownsRow B e 1 v n xs := by
  refine ⟨h.1, ?_⟩
  rcases h.2 with h0 | ⟨g, cap, cur, rfl, h1, hg, h2⟩
  · exact .inl h0
  · exact .inr ⟨g, cap, cur, rfl, h1, by rw [hk g rfl]; exact hg, h2⟩

/-- The cells that the walks read. -/
theorem FM.roomCell (h : FM w B rb sb scap ob ocap oN R S sz O j) : w.cell? ⟨rb, 17, none⟩ = some (.slice (some ⟨sb, 0, none⟩) sz scap) ∧ w.cell? ⟨rb, 18, none⟩ = some (.slice (some ⟨ob, 0, none⟩) (j + 1) ocap) ∧ w.cell? ⟨rb, 19, none⟩ = some (.int .i64 ((2 ^ j : Nat) : Int)) ∧ w.cell? ⟨rb, 20, none⟩ = some (.int .i64 (j : Int)) :=
  ⟨h.room.cell (k := 17) ⟨by omega, by omega⟩, h.room.cell (k := 18) ⟨by omega, by omega⟩, h.room.cell (k := 19) ⟨by omega, by omega⟩, h.room.cell (k := 20) ⟨by omega, by omega⟩⟩

theorem FM.segCell (h : FM w B rb sb scap ob ocap oN R S sz O j) {i k : Nat} (hi : i < sz) (hk : k < 6) : w.cell? ⟨sb, i * 6 + k, none⟩ = some (fld (S i) k) := by
  have := h.seg.cell (k := i * 6 + k) (show i * 6 + k < sz * 6 by omega)
  rw [this]
  show some (fld (S ((i * 6 + k) / 6)) ((i * 6 + k) % 6)) = _
  rw [show (i * 6 + k) / 6 = i by omega, show (i * 6 + k) % 6 = k by omega]

theorem FM.opnCell (h : FM w B rb sb scap ob ocap oN R S sz O j) {x : Nat} (hx : x ≤ j) : w.cell? ⟨ob, x, none⟩ = some (R x) := h.opn.cell hx

theorem FM.one (h : FM w B rb sb scap ob ocap oN R S sz O j) {x i : Nat} (hx : x ≤ j) (ho : O x = some i) : ∃ b c, R x = .slice (some ⟨b, 0, none⟩) 1 c ∧ w.cell? ⟨b, 0, none⟩ = some (.int .i64 (i : Int)) ∧ w.frozen? ⟨b, 0, none⟩ = false := by
  have hr := h.inner x hx
  rw [ho] at hr
  rcases hr.2 with ⟨_, h0⟩ | ⟨g, cap, cur, hv, _, hg, _⟩
  · cases h0
  · have hc := hr.cells (g := g) (by rw [hv]; rfl) 0 _ rfl
    refine ⟨g, cap, hv, by simpa [Addr.add] using hc, by simp [World.frozen?, hg]⟩

theorem FM.zero (h : FM w B rb sb scap ob ocap oN R S sz O j) {x : Nat} (hx : x ≤ j) (ho : O x = none) : ∃ a c, R x = .slice a 0 c := by
  have hr := h.inner x hx
  rw [ho] at hr
  rcases hr.2 with ⟨hv, _⟩ | ⟨g, cap, cur, hv, _⟩
  · exact ⟨_, _, hv⟩
  · exact ⟨_, _, hv⟩

/-- Where all blocks are as they were. -/
theorem FM.keep (h : FM w B rb sb scap ob ocap oN R S sz O j) (hk : ∀ b, b < w.heap.size → w'.heap[b]? = w.heap[b]?) : FM w' B rb sb scap ob ocap oN R S sz O j :=
  ⟨h.room.keep (hk _ h.room.lt), h.seg.keep (hk _ h.seg.lt), h.opn.keep (hk _ h.opn.lt), fun x hx => own_keep (h.inner x hx) fun b hb => by
    obtain ⟨cur, hc⟩ := own_row (h.inner x hx) hb
    exact hk b (lt_heap hc), h.apart, h.szc, h.scm, h.joc, h.Bb⟩

theorem FM.alloc (h : FM w B rb sb scap ob ocap oN R S sz O j) (o : Obj) : FM (w.alloc o) B rb sb scap ob ocap oN R S sz O j := h.keep fun _ hb => Below.heap_alloc _ _ _ hb
theorem FM.drew (h : FM w B rb sb scap ob ocap oN R S sz O j) : FM w.drew B rb sb scap ob ocap oN R S sz O j := h.keep fun _ _ => rfl
theorem FM.drewN (h : FM w B rb sb scap ob ocap oN R S sz O j) (n : Nat) : FM (w.drewN n) B rb sb scap ob ocap oN R S sz O j := h.keep fun _ _ => rfl

theorem FM.ne (h : FM w B rb sb scap ob ocap oN R S sz O j) : rb ≠ sb ∧ rb ≠ ob ∧ sb ≠ ob := ⟨h.room.ne h.seg (by decide), h.room.ne h.opn (by decide), h.seg.ne h.opn (by decide)⟩

theorem FM.neInner (h : FM w B rb sb scap ob ocap oN R S sz O j) {x b : Nat} (hx : x ≤ j) (hb : (R x).ownBlock = some b) : b ≠ rb ∧ b ≠ sb ∧ b ≠ ob := by
  obtain ⟨cur, hc⟩ := own_row (h.inner x hx) hb
  obtain ⟨c1, h1, _⟩ := h.room
  obtain ⟨c2, h2, _⟩ := h.seg
  obtain ⟨c3, h3, _⟩ := h.opn
  refine ⟨fun e => ?_, fun e => ?_, fun e => ?_⟩
  · subst e; rw [hc] at h1; simp at h1
  · subst e; rw [hc] at h2; simp at h2
  · subst e; rw [hc] at h3; simp at h3

/-- One cell of a segment. -/
theorem FM.setSeg (h : FM w B rb sb scap ob ocap oN R S sz O j) {i k : Nat} (hi : i < sz) (hk : k < 6) (e : En) (v : Value) (hv : v = fld e k) (he : ∀ k', k' < 6 → k' ≠ k → fld e k' = fld (S i) k') :
    FM (w.setCell ⟨sb, i * 6 + k, none⟩ v) B rb sb scap ob ocap oN R (upd S i e) sz O j := by
  obtain ⟨n1, n2, n3⟩ := h.ne
  refine ⟨h.room.setOther n1 v, (h.seg.set (l := i * 6 + k) (show i * 6 + k < sz * 6 by omega) v).congr fun q hq => ?_, h.opn.setOther n3.symm v, fun x hx => own_keep (h.inner x hx) fun b hb => Below.heap_setCell _ _ _ _ (h.neInner hx hb).2.1, h.apart, h.szc, h.scm, h.joc, h.Bb⟩
  by_cases hqe : q = i * 6 + k
  · subst hqe
    rw [upd_self, hv, show (i * 6 + k) / 6 = i by omega, show (i * 6 + k) % 6 = k by omega, upd_self]
  · rw [upd_ne _ _ hqe]
    by_cases hqi : q / 6 = i
    · rw [hqi, upd_self]
      exact (he (q % 6) (by omega) (by omega)).symm
    · rw [upd_ne _ _ hqi]

/-- The open row of a depth. -/
theorem FM.setOpn (h : FM w B rb sb scap ob ocap oN R S sz O j) {x : Nat} (hx : x ≤ j) (v : Value) (o : Option Nat) (hv : w.ownsRow B 3 1 v (cnt o) (lst o)) (ha : ∀ y, y ≤ j → y ≠ x → ∀ b, v.ownBlock = some b → (R y).ownBlock ≠ some b) :
    FM (w.setCell ⟨ob, x, none⟩ v) B rb sb scap ob ocap oN (upd R x v) S sz (upd O x o) j := by
  obtain ⟨n1, n2, n3⟩ := h.ne
  have hvne : ∀ b, v.ownBlock = some b → b ≠ ob := fun b hb e => by
    obtain ⟨cur, hc⟩ := own_row hv hb
    obtain ⟨c3, h3, _⟩ := h.opn
    subst e
    rw [hc] at h3
    simp at h3
  refine ⟨h.room.setOther n2 v, h.seg.setOther n3 v, h.opn.set hx v, fun y hy => ?_, fun y z hy hz hne b hb => ?_, h.szc, h.scm, h.joc, h.Bb⟩
  · by_cases e : y = x
    · subst e
      rw [upd_self, upd_self]
      exact own_keep hv fun b hb => Below.heap_setCell _ _ _ _ (hvne b hb)
    · rw [upd_ne _ _ e, upd_ne _ _ e]
      exact own_keep (h.inner y hy) fun b hb => Below.heap_setCell _ _ _ _ (h.neInner hy hb).2.2
  · by_cases ey : y = x
    · subst ey
      rw [upd_self] at hb
      rw [upd_ne _ _ (fun e => hne e.symm)]
      exact ha z hz (fun e => hne e.symm) b hb
    · rw [upd_ne _ _ ey] at hb
      by_cases ez : z = x
      · subst ez
        rw [upd_self]
        exact fun h2 => ha y hy ey b h2 hb
      · rw [upd_ne _ _ ez]
        exact h.apart y z hy hz hne b hb
end

end Go.Proofs.YbulkafceFmt
