/-
  LawS1546AAppends, walked.
-/
import Derived.Test.YbulkaezmDoorEq
import Derived.Test.YbulkaezmDoorDec
import Derived.Test.YbulkaezmDoorApp
import Derived.Laws.CopyOwn
import Derived.Laws.AppendOwnNone
namespace Go.Proofs.YbulkaezmDoor
open Go.RowKit

theorem size5 : (Ybad.prog.info? 5).map (·.size) = some 1 := by kernel_rfl

theorem At.below {w w' : World} {p : Option Addr} {xs : List Int} (h : At w p xs) (hb : Below w.heap.size w w') : At w' p xs := by
  intro j hj
  obtain ⟨b, o, hp, hc⟩ := h j hj
  exact ⟨b, o, hp, (hb.cell (World.block_lt_of_cell? w _ hc)).trans hc⟩

set_option maxHeartbeats 400000 in
theorem walk_big (p : Option Addr) (n c : Nat) (sel raw i : Int) (w : World) (hn : 1024 < n) (hm : n ≤ maxLen) :
    Calls Ybad.prog 3 #[.slice p n c, .int .u8 sel, .int .i32 raw, .int .i64 i] w fun e w' => e = .returned (.bool true) ∧ Below w.heap.size w w' := by
  unfold maxLen at hm
  go_enter Ybad.func3, Ybad.ntmps3
  go_wp2
  go_ret
  exact ⟨rfl, Below.refl _ _⟩

theorem own_at {w : World} {B n : Nat} {v : Value} {bs : List Int} (h : w.ownsRow B 5 1 v n (bs.map (Value.int .u8))) :
    ∃ p c, v = .slice p n c ∧ At w p bs ∧ bs.length = n := by
  have hl : bs.length = n := by have := h.1; simpa using this
  rcases h.2 with ⟨rfl, rfl⟩ | ⟨g, cap, cur, rfl, r⟩
  · exact ⟨none, 0, rfl, fun j hj => by omega, hl⟩
  · refine ⟨_, cap, rfl, fun j hj => ⟨g, 0, rfl, ?_⟩, hl⟩
    have := h.cells (g := g) rfl j (.int .u8 (bs[j]?.getD 0)) (by simp [hj])
    rw [Addr.add_lit] at this
    exact this

theorem cells_at {w : World} {p : Option Addr} {xs : List Int} (h : At w p xs) : 0 < xs.length → ∃ ad, p = some ad ∧ ∀ j v, (xs.map (Value.int .u8))[j]? = some v → w.cell? (ad.add j) = some v := by
  intro h0
  obtain ⟨b, o, rfl, hc⟩ := h.form h0
  refine ⟨_, rfl, fun j v hj => ?_⟩
  have hlt : j < xs.length := by have := (List.getElem?_eq_some_iff.1 hj).1; simpa using this
  rw [Addr.add_lit, hc j hlt]
  simpa [hlt] using hj

theorem own_below {w w' : World} {B n : Nat} {v : Value} {xs : List Value} (h : w.ownsRow B 5 1 v n xs) (hb : Below w.heap.size w w') : w'.ownsRow B 5 1 v n xs := by
  refine ⟨h.1, ?_⟩
  rcases h.2 with h2 | ⟨g, cap, cur, hv, hg, hh, r⟩
  · exact .inl h2
  · exact .inr ⟨g, cap, cur, hv, hg, by rw [hb.block g (Array.getElem?_eq_some_iff.1 hh).1]; exact hh, r⟩

theorem itoa_pos (i : Int) : 1 ≤ (Lib.itoa i).length := by
  unfold Lib.itoa
  split
  · simp
  · exact dec_pos _

theorem own_of_splice {w : World} {g n : Nat} {cur cs : List Value} (h : w.heap[g]? = some (.cells (splice cur 0 cs).toArray 5 (0, 0))) (hc : cur.length = n) (hs : cs.length = n) (hm : n ≤ maxLen) :
    w.ownsRow g 5 1 (.slice (some ⟨g, 0, none⟩) n n) n cs := by
  have e : splice cur 0 cs = cs := by simp [splice, hs, ← hc]
  rw [e] at h
  exact ⟨by omega, .inr ⟨g, n, _, rfl, Nat.le_refl _, h, Nat.le_refl _, hm, by simp [hs], by simp [← hs]⟩⟩

set_option maxHeartbeats 2000000 in
theorem walk_yes (p : Option Addr) (xs : List Int) (n c : Nat) (sel raw i : Int) (w : World) (hl : xs.length = n) (hn : n ≤ 1024) (s0 : 0 ≤ sel) (s1 : sel ≤ 255) (h0 : -9223372036854775808 ≤ i) (h1 : i ≤ 9223372036854775807)
    (hat : At w p xs) (htab : Lib.TabIs Ybad.prog w powName .u64 Lib.pow10Tab) (hs : sel % 3 = 0 ∨ sel % 3 = 1 ∨ (sel % 3 = 2 ∧ raw = 118) ∨ (sel % 3 = 2 ∧ raw = 100)) (hnil : p = none → n = 0 ∧ c = 0) :
    Calls Ybad.prog 3 #[.slice p n c, .int .u8 sel, .int .i32 raw, .int .i64 i] w fun e w' => e = .returned (.bool true) ∧ Below w.heap.size w w' := by
  obtain ⟨i0, hi, hz0, hz1, hz2⟩ := info_parts info5
  have hT := Lib.tabBelow_of_tabIs htab
  have HL : Hid (xs.length = n) := hl
  have hby : i0.bytes * n ≤ 281474976710656 := by rw [hz2]; omega
  have hmx : n ≤ maxLen := by unfold maxLen; omega
  clear hl htab
  rcases hs with hs | hs | ⟨hs, rfl⟩ | ⟨hs, rfl⟩
  all_goals
    go_enter Ybad.func3, Ybad.ntmps3
    go_wp2_with (at_make; refine wpList_make_full _ rfl _ _ 22 rfl w.heap.size 5 i0 (.int .u8 0) 1 Ybad.underlying22 hi hz0 hz1 .i64 .i64 _ _ n rfl rfl rfl rfl hby hmx (Nat.le_refl _) ?_)
    intro w1 hown1 hg1
    have hnx1 : Below w.heap.size w w1 := (Below.refl _ _).grown hg1 (Nat.le_refl _) (fun k hk => by cases hk)
    obtain ⟨cur, hcur, hcs⟩ : ∃ cur : Array Value, w1.heap[w.heap.size]? = some (.cells cur 5 (0, 0)) ∧ cur.size = n := by
      rcases hown1.2 with ⟨h, _⟩ | ⟨g, cap, cur, hv, _, hh, _, _, hc2, _⟩
      · cases h
      · cases hv; exact ⟨cur, hh, by simpa using hc2⟩
    clear hown1 hg1
    have hpos : 0 < (xs.map (Value.int .u8)).length → (some ⟨w.heap.size, 0, none⟩ : Option Addr) = some ⟨w.heap.size, 0, none⟩ ∧ ∃ ad, p = some ad ∧ ∀ j v, (xs.map (Value.int .u8))[j]? = some v → w1.cell? (ad.add j) = some v :=
      fun h => ⟨rfl, cells_at (hat.below hnx1) (by simpa using h)⟩
    obtain ⟨cs, HC⟩ : ∃ cs, Hid (cs = xs.map (Value.int .u8)) := ⟨_, rfl⟩
    rw [← HC.out] at hpos
    have hcl : cs.length = Nat.min n n := by rw [HC.out]; simp [HL.out]
    have hone : ∀ v ∈ cs, v.oneCell' = true := by rw [HC.out]; exact ints_oneCell _ _
    have hcur' : w1.heap[w.heap.size]? = some (.cells cur.toList.toArray 5 (0, 0)) := by simpa using hcur
    have hfit : 0 + cs.length ≤ cur.toList.length := by rw [hcl]; simp [hcs]
    go_wp2_with (refine wpList_copy_splice rfl (.tmp 30) (.tmp 31) 22 22 rfl 5 Ybad.underlying22 size5 _ _ n n n c rfl rfl w.heap.size 0 cur.toList 5 hcur' cs hcl hpos hfit hone w.heap.size w hnx1 (Nat.le_refl _) ?_; refine Hid.out ?_)
    refine Lib.hid ?_
    intro w2 HG hnx2
    have hown2 : w2.ownsRow w.heap.size 5 1 (.slice (some ⟨w.heap.size, 0, none⟩) n n) n cs :=
      own_of_splice HG.out (by simpa using hcs) (by rw [hcl]; simp) hmx
    clear HG hcur' hfit hpos hcl hone hcur hnx1 hcs hmx hby
    clear cur w1
    go_wp2_with (go_at_call 4; refine (app_yes _ (by first | exact .inl rfl | exact .inr rfl) w.heap.size n i h0 h1 _ cs w2 hown2 hnx2.size hn (hT.on hnx2)).mono ?_; rintro e w3 ⟨v3, rfl, hown3, hnx3⟩; refine Hid.out ?_)
    refine Lib.hid ?_
    have hnx := hnx2.trans hnx3
    clear hown2 hnx2 hnx3
    clear w2
    have hby : i0.bytes * (n + 20) ≤ 281474976710656 := by rw [hz2]; omega
    have hmx : n + 20 ≤ maxLen := by unfold maxLen; omega
    go_wp2_with (at_make; refine wpList_make_own _ rfl _ _ 22 rfl w3.heap.size 5 i0 (.int .u8 0) 1 Ybad.underlying22 hi hz0 hz1 .i64 .i64 _ (n + 20) rfl rfl (by omega) hby hmx (Nat.le_refl _) ?_; refine Hid.out ?_)
    refine Lib.hid ?_
    intro w4 hown4 hg4
    have hnx4 : Below w3.heap.size w3 w4 := (Below.refl _ _).grown hg4 (Nat.le_refl _) (fun k hk => by cases hk)
    clear hg4 hby hmx
    have hat4 : At w4 p xs := hat.below (hnx.trans (hnx4.mono hnx.size))
    have hnone : p = none → n = 0 ∧ c = 0 := hnil
    have hsrc : ∀ ad, p = some ad → ∀ j u, cs[j]? = some u → w4.cell? (ad.add j) = some u := by
      intro ad had j u hj
      rw [HC.out] at hj
      obtain ⟨ad', e, hc⟩ := cells_at hat4 (by rcases Nat.eq_zero_or_pos xs.length with h | h; · simp [List.eq_nil_of_length_eq_zero h] at hj
                                               · exact h)
      rw [had] at e; cases e
      exact hc j u hj
    have hcl : cs.length = n * 1 := by rw [HC.out]; simp [HL.out]
    have hone : ∀ v ∈ cs, v.oneCell' = true := by rw [HC.out]; exact ints_oneCell _ _
    go_wp2_with (at_builtin; refine wpList_append_fits_any _ rfl (.tmp 52) (.tmp 53) 22 rfl w3.heap.size 5 i0 1 Ybad.underlying22 hi hz1 w3.heap.size 0 (n + 20) [] rfl hown4 p n c cs rfl hcl hnone hsrc hone (by omega) ?_; refine Hid.out ?_)
    refine Lib.hid ?_
    intro w5 hown5 hg5
    have hnx5 : Below w3.heap.size w3 w5 := hnx4.grown hg5 hnx4.size (fun k hk => by cases hk; exact Nat.le_refl _)
    clear hg5 hown4 hnx4 hat4 hsrc hone hcl hnone
    clear w4
    go_wp2_with (go_at_call 5; refine (dec_any i h0 h1 w5).mono ?_; rintro e w6 ⟨v6, rfl, hown6, hnx6⟩; refine Hid.out ?_)
    refine Lib.hid ?_
    have hown5' : w6.ownsRow w3.heap.size 5 1 (.slice (some ⟨w3.heap.size, 0, none⟩) n (n + 20)) n cs := own_below hown5 hnx6
    have hnx6' : Below w3.heap.size w3 w6 := hnx5.trans (hnx6.mono hnx5.size)
    have hit1 := itoa_pos i
    have hit2 := Lib.itoa_length_le i h0 h1
    obtain ⟨T, HTx⟩ : ∃ T, Hid (T = Lib.itoa i) := ⟨_, rfl⟩
    rw [← HTx.out] at hown6 hown3 hit1 hit2
    obtain ⟨g6, c6, hv6⟩ : ∃ g c, v6 = .slice (some ⟨g, 0, none⟩) T.length c := by
      rcases hown6.2 with ⟨_, h⟩ | ⟨g, cap, cur, hv, r⟩
      · omega
      · exact ⟨g, cap, hv⟩
    rw [hv6] at hown6 ⊢
    have hc6 := hown6.cells (g := g6) rfl
    clear hv6 hown6 hown5 hnx5 hnx6
    clear v6 w5
    go_wp2_with (at_builtin; refine wpList_append_own _ rfl (.tmp 55) (.tmp 57) 22 rfl w3.heap.size 5 i0 (.int .u8 0) 1 1 Ybad.underlying22 hi hz0 hz1 hz2 rfl (by decide) _ _ _ rfl hown5' ⟨g6, 0, none⟩ T.length c6 (Lib.byteCells T) rfl (by simp [Lib.byteCells]) hc6 ?f2 ?f3 ?f4 ?f5 ?_)
    case f2 => intro u hu; simp [Lib.byteCells] at hu; obtain ⟨_, _, rfl⟩ := hu; rfl
    case f3 => unfold maxLen; omega
    case f4 => omega
    case f5 => exact hnx6'.size
    intro v7 w7 hown7 hg7 hnn
    have hnx7 : Below w3.heap.size w3 w7 := hnx6'.grown hg7 hnx6'.size (fun k hk => (hown5'.lt k hk).1)
    have ebs : cs ++ Lib.byteCells T = (xs ++ T.map (fun b => (b.toNat : Int))).map (Value.int .u8) := by
      rw [HC.out]; simp [Lib.byteCells]
    rw [ebs] at hown7 hown3
    have hown3' := own_below hown3 hnx7
    obtain ⟨p3, c3, hv3, hat3, hl3⟩ := own_at hown3'
    obtain ⟨p7, c7, hv7, hat7, _⟩ := own_at hown7
    rw [hv3, hv7]
    clear hnn hv3 hv7 hown3' hown7 hown3 hg7 hnx6' hc6 hown5' ebs
    clear v3 v7 w6
    go_wp2_with (go_at_call 6; refine (eq_true p3 p7 (n + T.length) c3 c7 _ w7 hl3 (by omega) hat3 hat7).mono ?_; rintro e w8 ⟨rfl, hnx8⟩; refine Hid.out ?_)
    refine Lib.hid ?_
    go_wp2
    go_ret
    exact ⟨rfl, (hnx.trans (hnx7.mono hnx.size)).trans (hnx8.mono (Nat.le_trans hnx.size hnx7.size))⟩

set_option maxHeartbeats 2000000 in
theorem walk_no (p : Option Addr) (xs : List Int) (n c : Nat) (sel raw i : Int) (w : World) (hl : xs.length = n) (hn : n ≤ 1024) (s0 : 0 ≤ sel) (s1 : sel ≤ 255) 
    (hat : At w p xs) (hs : sel % 3 = 2) (hr1 : (raw == 118) = false) (hr2 : (raw == 100) = false) :
    Calls Ybad.prog 3 #[.slice p n c, .int .u8 sel, .int .i32 raw, .int .i64 i] w fun e w' => e = .returned (.bool true) ∧ Below w.heap.size w w' := by
  obtain ⟨i0, hi, hz0, hz1, hz2⟩ := info_parts info5
  have HL : Hid (xs.length = n) := hl
  have hby : i0.bytes * n ≤ 281474976710656 := by rw [hz2]; omega
  have hmx : n ≤ maxLen := by unfold maxLen; omega
  clear hl
  go_enter Ybad.func3, Ybad.ntmps3
  go_wp2_with (at_make; refine wpList_make_full _ rfl _ _ 22 rfl w.heap.size 5 i0 (.int .u8 0) 1 Ybad.underlying22 hi hz0 hz1 .i64 .i64 _ _ n rfl rfl rfl rfl hby hmx (Nat.le_refl _) ?_)
  intro w1 hown1 hg1
  have hnx1 : Below w.heap.size w w1 := (Below.refl _ _).grown hg1 (Nat.le_refl _) (fun k hk => by cases hk)
  obtain ⟨cur, hcur, hcs⟩ : ∃ cur : Array Value, w1.heap[w.heap.size]? = some (.cells cur 5 (0, 0)) ∧ cur.size = n := by
    rcases hown1.2 with ⟨h, _⟩ | ⟨g, cap, cur, hv, _, hh, _, _, hc2, _⟩
    · cases h
    · cases hv; exact ⟨cur, hh, by simpa using hc2⟩
  clear hown1 hg1
  have hpos : 0 < (xs.map (Value.int .u8)).length → (some ⟨w.heap.size, 0, none⟩ : Option Addr) = some ⟨w.heap.size, 0, none⟩ ∧ ∃ ad, p = some ad ∧ ∀ j v, (xs.map (Value.int .u8))[j]? = some v → w1.cell? (ad.add j) = some v :=
    fun h => ⟨rfl, cells_at (hat.below hnx1) (by simpa using h)⟩
  obtain ⟨cs, HC⟩ : ∃ cs, Hid (cs = xs.map (Value.int .u8)) := ⟨_, rfl⟩
  rw [← HC.out] at hpos
  have hcl : cs.length = Nat.min n n := by rw [HC.out]; simp [HL.out]
  have hone : ∀ v ∈ cs, v.oneCell' = true := by rw [HC.out]; exact ints_oneCell _ _
  have hcur' : w1.heap[w.heap.size]? = some (.cells cur.toList.toArray 5 (0, 0)) := by simpa using hcur
  have hfit : 0 + cs.length ≤ cur.toList.length := by rw [hcl]; simp [hcs]
  go_wp2_with (refine wpList_copy_splice rfl (.tmp 30) (.tmp 31) 22 22 rfl 5 Ybad.underlying22 size5 _ _ n n n c rfl rfl w.heap.size 0 cur.toList 5 hcur' cs hcl hpos hfit hone w.heap.size w hnx1 (Nat.le_refl _) ?_; refine Hid.out ?_)
  refine Lib.hid ?_
  intro w2 HG hnx2
  have hown2 : w2.ownsRow w.heap.size 5 1 (.slice (some ⟨w.heap.size, 0, none⟩) n n) n cs :=
    own_of_splice HG.out (by simpa using hcs) (by rw [hcl]; simp) hmx
  clear HG hcur' hfit hpos hcl hone hcur hnx1 hcs hmx hby
  clear cur w1
  go_wp2_with (go_at_call 4; refine (app_no raw hr1 hr2 i _ w2).mono ?_; rintro e w3 ⟨rfl, rfl⟩; refine Hid.out ?_)
  refine Lib.hid ?_
  rw [HC.out] at hown2
  obtain ⟨p3, c3, hv3, hat3, hl3⟩ := own_at hown2
  cases hv3
  have hat2 := hat.below hnx2
  clear hown2
  go_wp2_with (go_at_call 6; refine (eq_true _ p n n c _ w3 hl3 (by omega) hat3 hat2).mono ?_; rintro e w8 ⟨rfl, hnx8⟩; refine Hid.out ?_)
  refine Lib.hid ?_
  go_wp2
  go_ret
  exact ⟨rfl, hnx2.trans (hnx8.mono hnx2.size)⟩

end Go.Proofs.YbulkaezmDoor
