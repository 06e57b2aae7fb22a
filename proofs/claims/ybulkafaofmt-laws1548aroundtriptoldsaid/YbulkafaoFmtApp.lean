/-
  append of a whole slice to a row of the call's own, or to a full one.
-/
import Derived.Test.YbulkafaoFmtRows
import Derived.Test.YbulkafaoFmtShelf
import Derived.WalkKit
import Derived.WalkSpells
import Derived.WalkLawsBesides
import Derived.Laws.CopyOwn
import Derived.Below
namespace Go.Proofs.YbulkafaoFmt
open Go.RowKit

/-- Of a slice: it is nil; or its elements are the cells 'xs'. -/
def Src (w : World) (v : Value) (n : Nat) (xs : List Value) : Prop :=
  (v = .slice none 0 0 ∧ n = 0 ∧ xs = []) ∨ ∃ ad c, v = .slice (some ad) n c ∧ xs.length = n ∧ ∀ j u, xs[j]? = some u → w.cell? (ad.add j) = some u

/-- .. and it has no spare room. -/
def Full (w : World) (v : Value) (n : Nat) (xs : List Value) : Prop :=
  (v = .slice none 0 0 ∧ n = 0 ∧ xs = []) ∨ ∃ ad, v = .slice (some ad) n n ∧ xs.length = n ∧ ∀ j u, xs[j]? = some u → w.cell? (ad.add j) = some u

theorem cell_kept {w w' : World} {B : Nat} (hb : Below B w w') (hB : w.heap.size ≤ B) {a : Addr} {v : Value} (h : w.cell? a = some v) : w'.cell? a = some v := by
  have hlt := World.block_lt_of_cell? w a h
  exact (World.cell?_of_block (hb.block a.block (by omega))).trans h

theorem Src.kept {w w' : World} {B : Nat} (hb : Below B w w') (hB : w.heap.size ≤ B) {v : Value} {n : Nat} {xs : List Value} (h : Src w v n xs) : Src w' v n xs := by
  rcases h with h | ⟨ad, c, h1, h2, h3⟩
  · exact .inl h
  · exact .inr ⟨ad, c, h1, h2, fun j u hj => cell_kept hb hB (h3 j u hj)⟩

theorem Full.kept {w w' : World} {B : Nat} (hb : Below B w w') (hB : w.heap.size ≤ B) {v : Value} {n : Nat} {xs : List Value} (h : Full w v n xs) : Full w' v n xs := by
  rcases h with h | ⟨ad, h1, h2, h3⟩
  · exact .inl h
  · exact .inr ⟨ad, h1, h2, fun j u hj => cell_kept hb hB (h3 j u hj)⟩

theorem Full.src {w : World} {v : Value} {n : Nat} {xs : List Value} (h : Full w v n xs) : Src w v n xs := by
  rcases h with h | ⟨ad, h1, h2, h3⟩
  · exact .inl h
  · exact .inr ⟨ad, _, h1, h2, h3⟩

theorem own_src {w : World} {B : Nat} {e : TypeId} {v : Value} {n : Nat} {xs : List Value} (h : w.ownsRow B e 1 v n xs) : Src w v n xs := by
  have hl := h.1
  rcases h.2 with ⟨rfl, rfl⟩ | ⟨g, cap, cur, rfl, hbg, hg, hnc, hcm, hcs, htake⟩
  · exact .inl ⟨rfl, rfl, List.eq_nil_of_length_eq_zero (by simpa using hl)⟩
  · exact .inr ⟨_, _, rfl, by simpa using hl, h.cells (g := g) rfl⟩

section
variable {P : Program} (w : World)

theorem run_app (base : Nat) (t ty e : TypeId) (i : TypeInfo) (z : Value) (bytes : Nat) (ht : P.underlying t = some (.slice e)) (hi : P.info? e = some i) (hz : i.zero = some z)
    (hsize : i.size = 1) (hby : i.bytes = bytes) (hzs : z.cells.size = 1) (v : Value) (n : Nat) (xs : List Value) (hown : w.ownsRow base e 1 v n xs)
    (sv : Value) (m : Nat) (news : List Value) (hs : Src w sv m news) (h1 : ∀ u ∈ news, u.oneCell' = true) (h63 : n + m ≤ maxLen) (hbytes : (n + m) * bytes ≤ 140737488355328) (hbase : base ≤ w.heap.size) :
    ∃ v' w', (Builtin.append_ #[t, t] ty #[v, sv]).run P w = .ok v' w' ∧ w'.ownsRow base e 1 v' (n + m) (xs ++ news) ∧ Below base w w' := by
  rcases hs with ⟨rfl, rfl, rfl⟩ | ⟨ad, c, rfl, hl, hc⟩
  · refine ⟨v, w, ?_, by simpa using hown, Below.refl _ _⟩
    rcases hown.2 with ⟨rfl, rfl⟩ | ⟨g, cap, cur, rfl, hbg, hg, hnc, hcm, hcs, htake⟩
    · simp [Builtin.append_, run_underlying ht, sizeOf, typeInfo, hi, Builtin.lenOf, Builtin.firstCells]
    · simp [Builtin.append_, run_underlying ht, sizeOf, typeInfo, hi, Builtin.lenOf, Builtin.firstCells, loadCells, hnc, storeCells]
  · obtain ⟨v', w', hr, h2, h3, _⟩ := run_append_own (P := P) w base t ty e i z 1 bytes ht hi hz hsize hby hzs (by decide) v n xs hown ad m c news (by simpa using hl) hc h1 h63 hbytes hbase
    exact ⟨v', w', hr, h2, (Below.refl base w).grown h3 hbase (fun k hk => (hown.lt k hk).1)⟩

theorem run_app_full (base : Nat) (t ty e : TypeId) (i : TypeInfo) (z : Value) (bytes : Nat) (ht : P.underlying t = some (.slice e)) (hi : P.info? e = some i) (hz : i.zero = some z)
    (hsize : i.size = 1) (hby : i.bytes = bytes) (hzs : z.cells.size = 1) (v : Value) (n : Nat) (xs : List Value) (hold : Full w v n xs)
    (ad : Addr) (m c : Nat) (news : List Value) (hl : news.length = m) (hc : ∀ j u, news[j]? = some u → w.cell? (ad.add j) = some u) (h1 : ∀ u ∈ news, u.oneCell' = true) (h0 : 0 < m) (h63 : n + m ≤ maxLen) (hbytes : (n + m) * bytes ≤ 140737488355328) (hbase : base ≤ w.heap.size) :
    ∃ v' w', (Builtin.append_ #[t, t] ty #[v, .slice (some ad) m c]).run P w = .ok v' w' ∧ w'.ownsRow base e 1 v' (n + m) (xs ++ news) ∧ Below base w w' := by
  have hm := h63
  simp only [maxLen] at hm
  rcases hold with ⟨rfl, rfl, rfl⟩ | ⟨b, rfl, hlx, hcx⟩
  · obtain ⟨v', w', hr, h2, h3, _⟩ := run_append_own (P := P) w base t ty e i z 1 bytes ht hi hz hsize hby hzs (by decide) _ 0 [] (World.ownsRow_nil w base e 1) ad m c news (by simpa using hl) hc h1 h63 hbytes hbase
    exact ⟨v', w', hr, h2, (Below.refl base w).grown h3 hbase (fun k hk => by simp [Value.ownBlock] at hk)⟩
  · have hr := run_append_grow (P := P) w t ty e i z ht hi hz b n n xs (by rw [hsize]; omega) hcx ad m c news (by rw [hsize]; omega) hc (by omega) (by omega) (growslice_fits (by omega) (by rw [hby]; exact hbytes))
    have hge := grownCap_ge w (n + m) n e
    have hcm : grownCap w (n + m) n e ≤ maxLen := grownCap_le_maxLen w (n + m) n e h63
    have hlen : (xs ++ news).length = (n + m) * 1 := by rw [List.length_append]; omega
    refine ⟨_, _, hr, ⟨hlen, .inr ⟨w.heap.size, _, _, rfl, hbase, heap_alloc_new w.drew _, hge, hcm, ?_, ?_⟩⟩, ((Below.refl base w).drew).alloc hbase _⟩
    · simp only [Array.size_append, List.size_toArray, size_zeroCells, hzs, hlx, hl]
      omega
    · simp only [Array.toList_append, List.append_assoc]
      rw [← List.append_assoc, ← hlen]
      exact List.take_left

theorem wpList_app {ops : Array Oper} {rest : List Oper} {o : Oper} {a : Act} {Q : Exit → Act → World → Prop} (hgd : o.guard = none) (s x : Operand) (t : TypeId)
    (ho : o.op = .call { callee := .builtin .append, args := #[s, x], argTypes := #[t, t] })
    (base : Nat) (e : TypeId) (i : TypeInfo) (z : Value) (bytes : Nat) (ht : P.underlying t = some (.slice e)) (hi : P.info? e = some i) (hz : i.zero = some z)
    (hsize : i.size = 1) (hby : i.bytes = bytes) (hzs : z.cells.size = 1) (v : Value) (n : Nat) (xs : List Value) (hs : a.eval s = v) (hown : w.ownsRow base e 1 v n xs)
    (sv : Value) (m : Nat) (news : List Value) (hx : a.eval x = sv) (hsv : Src w sv m news) (h1 : ∀ u ∈ news, u.oneCell' = true)
    (h63 : n + m ≤ maxLen) (hbytes : (n + m) * bytes ≤ 140737488355328) (hbase : base ≤ w.heap.size)
    (h : ∀ v' w', w'.ownsRow base e 1 v' (n + m) (xs ++ news) → Below base w w' → wpList P ops Q rest (a.put o.dst v') w') : wpList P ops Q (o :: rest) a w := by
  refine wpList_plain hgd fun K hK => ?_
  obtain ⟨v', w', hr, h2, h3⟩ := run_app (P := P) w base t o.type e i z bytes ht hi hz hsize hby hzs v n xs hown sv m news hsv h1 h63 hbytes hbase
  unfold Oper.wp execOp
  simp only [ho, resolve, invoke, builtin, Sem.run_bind, Sem.run_pure, Result.andThen_ok, List.map_toArray, List.map_cons, List.map_nil, hs, hx, hr]
  exact hK _ _ (h v' w' h2 h3)

theorem wpList_app_full {ops : Array Oper} {rest : List Oper} {o : Oper} {a : Act} {Q : Exit → Act → World → Prop} (hgd : o.guard = none) (s x : Operand) (t : TypeId)
    (ho : o.op = .call { callee := .builtin .append, args := #[s, x], argTypes := #[t, t] })
    (base : Nat) (e : TypeId) (i : TypeInfo) (z : Value) (bytes : Nat) (ht : P.underlying t = some (.slice e)) (hi : P.info? e = some i) (hz : i.zero = some z)
    (hsize : i.size = 1) (hby : i.bytes = bytes) (hzs : z.cells.size = 1) (v : Value) (n : Nat) (xs : List Value) (hs : a.eval s = v) (hold : Full w v n xs)
    (ad : Addr) (m c : Nat) (news : List Value) (hx : a.eval x = .slice (some ad) m c) (hl : news.length = m) (hc : ∀ j u, news[j]? = some u → w.cell? (ad.add j) = some u) (h1 : ∀ u ∈ news, u.oneCell' = true) (h0 : 0 < m)
    (h63 : n + m ≤ maxLen) (hbytes : (n + m) * bytes ≤ 140737488355328) (hbase : base ≤ w.heap.size)
    (h : ∀ v' w', w'.ownsRow base e 1 v' (n + m) (xs ++ news) → Below base w w' → wpList P ops Q rest (a.put o.dst v') w') : wpList P ops Q (o :: rest) a w := by
  refine wpList_plain hgd fun K hK => ?_
  obtain ⟨v', w', hr, h2, h3⟩ := run_app_full (P := P) w base t o.type e i z bytes ht hi hz hsize hby hzs v n xs hold ad m c news hl hc h1 h0 h63 hbytes hbase
  unfold Oper.wp execOp
  simp only [ho, resolve, invoke, builtin, Sem.run_bind, Sem.run_pure, Result.andThen_ok, List.map_toArray, List.map_cons, List.map_nil, hs, hx, hr]
  exact hK _ _ (h v' w' h2 h3)
end

end Go.Proofs.YbulkafaoFmt
