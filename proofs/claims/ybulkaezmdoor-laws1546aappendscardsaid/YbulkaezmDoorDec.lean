/-
  zzs1546adec: the decimal text of n, in a slice of the call's own.
-/
import Derived.Test.YbulkaezmDoorRows
import Derived.WalkKit
import Derived.WalkSpells
import Derived.WalkLawsBesides
import Derived.Lib.ItoaNum
import Derived.Lib.ItoaLen
import Derived.Lib.UnsafeStr
namespace Go.Proofs.YbulkaezmDoor
open Go.RowKit

theorem info5 : (Ybad.prog.info? 5).map (fun i => (i.zero, i.size, i.bytes)) = some (some (.int .u8 0), 1, 1) := by kernel_rfl

/-- The numeral, read from its end: what the first loop gathers. -/
theorem dec_step (u : Nat) (h : ¬ u / 10 = 0) : Lib.decDigits u = Lib.decDigits (u / 10) ++ [UInt8.ofNat (48 + u % 10)] := by
  rw [Lib.decDigits, dif_neg (by omega)]
theorem dec_last (u : Nat) (h : u / 10 = 0) : Lib.decDigits u = [UInt8.ofNat (48 + u % 10)] := by
  rw [Lib.decDigits, dif_pos (by omega), Nat.mod_eq_of_lt (by omega)]
theorem dec_pos (u : Nat) : 1 ≤ (Lib.decDigits u).length := by rw [Lib.decDigits_length]; exact Lib.nDigits_pos u

theorem byteCells_snoc (r : List UInt8) (b : UInt8) : Lib.byteCells r ++ [.int .u8 (b.toNat : Int)] = Lib.byteCells (r ++ [b]) := by simp [Lib.byteCells]
theorem dig_byte (u : Nat) : ((UInt8.ofNat (48 + u % 10)).toNat : Int) = 48 + (u : Int) % 10 := by
  rw [UInt8.toNat_ofNat']; omega

theorem own_base_le {w : World} {B B' : Nat} {e : TypeId} {size : Nat} {v : Value} {n : Nat} {xs : List Value} (h : w.ownsRow B e size v n xs) (hB : B' ≤ B) : w.ownsRow B' e size v n xs := by
  refine ⟨h.1, ?_⟩
  rcases h.2 with h2 | ⟨g, cap, cur, hv, hb, r⟩
  · exact .inl h2
  · exact .inr ⟨g, cap, cur, hv, by omega, r⟩

set_option maxHeartbeats 400000 in
theorem dec_nonneg (u0 : Nat) (h1 : u0 ≤ 9223372036854775807) (w : World) :
    Calls Ybad.prog 5 #[.int .i64 u0] w fun e w' => ∃ v, e = .returned v ∧ w'.ownsRow w.heap.size 5 1 v (Lib.decDigits u0).length (Lib.byteCells (Lib.decDigits u0)) ∧ Below w.heap.size w w' := by
  obtain ⟨i0, hi, hz0, hz1, hz2⟩ := info_parts info5
  have hlen : (Lib.decDigits u0).length ≤ 20 := by rw [Lib.decDigits_length]; exact Lib.nDigits_le20 u0 (by omega)
  have hneg : decide ((u0 : Int) < 0) = false := by simp
  go_enter Ybad.func5, Ybad.ntmps5
  go_wp2
  go_loopw [4, 5] (fun u v wr => ∃ (k : Nat) (r : List UInt8), k ≤ u0 ∧ u = .int .u64 k ∧ Hid (Lib.decDigits u0 = Lib.decDigits k ++ r.reverse) ∧ wr.ownsRow w.heap.size 5 1 v r.length (Lib.byteCells r) ∧ Below w.heap.size w wr) (fun u _ _ => (intOf u).toNat)
  case atStart => exact ⟨u0, [], Nat.le_refl _, rfl, by simp [Hid], World.ownsRow_nil _ _ _ _, Below.refl _ _⟩
  case round =>
    obtain ⟨k, r, hk, rfl, hd, hown, hnx⟩ := hrel
    have hrl : r.length ≤ 20 := by have := congrArg List.length hd.out; simp at this; omega
    have hsz := hnx.size
    go_wp2_with (at_builtin; refine wpList_append_own _ rfl _ _ 22 rfl w.heap.size 5 i0 (.int .u8 0) 1 1 Ybad.underlying22 hi hz0 hz1 hz2 rfl (by decide) _ _ _ rfl (hown.alloc _) ⟨wr.heap.size, 0, none⟩ 1 1 [Value.int .u8 (48 + (k : Int) % 10)] rfl rfl ?c1 ?c2 ?c3 ?c4 ?c5 ?_)
    case c1 => exact cell_one_new _ _ _
    case c2 => intro u hu; simp at hu; subst hu; rfl
    case c3 => unfold maxLen; omega
    case c4 => omega
    case c5 => simp; omega
    · intro v' w1 hown' hgrow _
      have hnx' : Below w.heap.size w w1 := (hnx.alloc (by omega) _).grown hgrow (by simp; omega) (fun k hk => (hown.lt k hk).1)
      rw [← dig_byte, byteCells_snoc] at hown'
      have hown2 : w1.ownsRow w.heap.size 5 1 v' (r ++ [UInt8.ofNat (48 + k % 10)]).length (Lib.byteCells (r ++ [UInt8.ofNat (48 + k % 10)])) := by simpa using hown'
      clear hown' hgrow hown hnx
      by_cases hq : k / 10 = 0
      · have hz : ((k : Int) / 10 == 0) = true := by simp; omega
        have HD : Hid (Lib.decDigits u0 = (r ++ [UInt8.ofNat (48 + k % 10)]).reverse) := by
          show _ = _
          rw [hd.out, dec_last k hq]; simp
        clear hd
        obtain ⟨R, HR⟩ : ∃ R, Hid (R = r ++ [UInt8.ofNat (48 + k % 10)]) := ⟨_, rfl⟩
        have hR0 : 0 < R.length := by rw [HR.out]; simp
        have hR1 : R.length ≤ 21 := by rw [HR.out]; simp; omega
        rw [← HR.out] at hown2 HD
        clear HR
        obtain ⟨g, cap, hv, hgb⟩ : ∃ g cap, v' = .slice (some ⟨g, 0, none⟩) R.length cap ∧ g < w1.heap.size := by
          rcases hown2.2 with ⟨_, h⟩ | ⟨g, cap, cur, hv, _, hg, _⟩
          · omega
          · exact ⟨g, cap, hv, (Array.getElem?_eq_some_iff.1 hg).1⟩
        rw [hv] at hown2 ⊢
        have hcR : ∀ j, j < R.length → w1.cell? ⟨g, j, none⟩ = some (.int .u8 ((R[j]?.getD 0).toNat : Int)) := by
          intro j hj
          have := hown2.cells (g := g) rfl j _ (show (Lib.byteCells R)[j]? = some (.int .u8 ((R[j]?.getD 0).toNat : Int)) by simp [Lib.byteCells, hj])
          rw [Addr.add_lit] at this; simpa using this
        clear hv hown2
        go_wp2
        go_loopw [6, 7] (fun v i wr => ∃ k : Nat, k ≤ R.length ∧ i = .int .i64 ((k : Int) - 1) ∧ wr.ownsRow w1.heap.size 5 1 v (R.length - k) (Lib.byteCells (R.drop k).reverse) ∧ Below w1.heap.size w1 wr) (fun _ i _ => (intOf i + 1).toNat)
        case atStart => exact ⟨R.length, Nat.le_refl _, rfl, by simp [Lib.byteCells]; exact World.ownsRow_nil _ _ _ _, Below.refl _ _⟩
        case round =>
          obtain ⟨k, hk, rfl, hown, hnx⟩ := hrel
          rcases k with _ | m
          · go_wp2
            go_ret
            have hsz1 := hnx'.size
            refine ⟨_, rfl, ?_, hnx'.trans (hnx.mono hsz1)⟩
            rw [HD.out]
            have := own_base_le hown hsz1
            simpa using this
          · have hcm : wr.cell? ⟨g, m, none⟩ = some (.int .u8 ((R[m]?.getD 0).toNat : Int)) := (hnx.cell hgb).trans (hcR m (by omega))
            have hsz1 := hnx.size
            go_wp2_with (at_builtin; refine wpList_append_own _ rfl _ _ 22 rfl w1.heap.size 5 i0 (.int .u8 0) 1 1 Ybad.underlying22 hi hz0 hz1 hz2 rfl (by decide) _ _ _ rfl (hown.alloc _) ⟨wr.heap.size, 0, none⟩ 1 1 [Value.int .u8 ((R[m]?.getD 0).toNat : Int)] rfl rfl (cell_one_new _ _ _) ?d2 ?d3 ?d4 ?d5 ?_)
            case d2 => intro u hu; simp at hu; subst hu; rfl
            case d3 => unfold maxLen; omega
            case d4 => omega
            case d5 => simp; omega
            · intro v2 w2 hown' hgrow _
              have hnx2 : Below w1.heap.size w1 w2 := (hnx.alloc (by omega) _).grown hgrow (by simp; omega) (fun k hk => (hown.lt k hk).1)
              have hownm : w2.ownsRow w1.heap.size 5 1 v2 (R.length - m) (Lib.byteCells (R.drop m).reverse) := by
                rw [byteCells_snoc] at hown'
                have e1 : (R.drop (m + 1)).reverse ++ [R[m]?.getD 0] = (R.drop m).reverse := by
                  rw [List.drop_eq_getElem_cons (show m < R.length by omega), List.reverse_cons, List.getElem?_eq_getElem (show m < R.length by omega)]; rfl
                rw [e1, show R.length - (m + 1) + 1 = R.length - m by omega] at hown'
                exact hown'
              clear hown' hgrow hown hnx
              go_wp2
              go_roundw
              case rel => exact ⟨m, by omega, by go_num, hownm, hnx2⟩
              case measure => simp [intOf]
      · have hz : ((k : Int) / 10 == 0) = false := by simp; omega
        go_wp2
        go_roundw
        case rel => exact ⟨k / 10, _, by omega, by go_num, by show _ = _; rw [hd.out, dec_step k hq]; simp, hown2, hnx'⟩
        case measure => simp [intOf]; omega

set_option maxHeartbeats 400000 in
theorem dec_neg (u0 : Nat) (h0 : 1 ≤ u0) (h1 : u0 ≤ 9223372036854775808) (w : World) :
    Calls Ybad.prog 5 #[.int .i64 (-(u0 : Int))] w fun e w' => ∃ v, e = .returned v ∧ w'.ownsRow w.heap.size 5 1 v (45 :: Lib.decDigits u0).length (Lib.byteCells (45 :: Lib.decDigits u0)) ∧ Below w.heap.size w w' := by
  obtain ⟨i0, hi, hz0, hz1, hz2⟩ := info_parts info5
  have hlen : (Lib.decDigits u0).length ≤ 20 := by rw [Lib.decDigits_length]; exact Lib.nDigits_le20 u0 (by omega)
  have hneg : decide (0 < u0) = true := by simp; omega
  have hwrap : IntKind.u64.wrap (-IntKind.u64.wrap (-(u0 : Int))) = (u0 : Int) := by simp only [IntKind.wrap_u64]; omega
  go_enter Ybad.func5, Ybad.ntmps5
  go_wp2
  go_loopw [4, 5] (fun u v wr => ∃ (k : Nat) (r : List UInt8), k ≤ u0 ∧ u = .int .u64 k ∧ Hid (Lib.decDigits u0 = Lib.decDigits k ++ r.reverse) ∧ wr.ownsRow w.heap.size 5 1 v r.length (Lib.byteCells r) ∧ Below w.heap.size w wr) (fun u _ _ => (intOf u).toNat)
  case atStart => exact ⟨u0, [], Nat.le_refl _, rfl, by simp [Hid], World.ownsRow_nil _ _ _ _, Below.refl _ _⟩
  case round =>
    obtain ⟨k, r, hk, rfl, hd, hown, hnx⟩ := hrel
    have hrl : r.length ≤ 20 := by have := congrArg List.length hd.out; simp at this; omega
    have hsz := hnx.size
    go_wp2_with (at_builtin; refine wpList_append_own _ rfl _ _ 22 rfl w.heap.size 5 i0 (.int .u8 0) 1 1 Ybad.underlying22 hi hz0 hz1 hz2 rfl (by decide) _ _ _ rfl (hown.alloc _) ⟨wr.heap.size, 0, none⟩ 1 1 [Value.int .u8 (48 + (k : Int) % 10)] rfl rfl ?c1 ?c2 ?c3 ?c4 ?c5 ?_)
    case c1 => exact cell_one_new _ _ _
    case c2 => intro u hu; simp at hu; subst hu; rfl
    case c3 => unfold maxLen; omega
    case c4 => omega
    case c5 => simp; omega
    · intro v' w1 hown' hgrow _
      have hnx' : Below w.heap.size w w1 := (hnx.alloc (by omega) _).grown hgrow (by simp; omega) (fun k hk => (hown.lt k hk).1)
      rw [← dig_byte, byteCells_snoc] at hown'
      have hown2 : w1.ownsRow w.heap.size 5 1 v' (r ++ [UInt8.ofNat (48 + k % 10)]).length (Lib.byteCells (r ++ [UInt8.ofNat (48 + k % 10)])) := by simpa using hown'
      clear hown' hgrow hown hnx
      by_cases hq : k / 10 = 0
      · have hz : ((k : Int) / 10 == 0) = true := by simp; omega
        have HD : Hid (Lib.decDigits u0 = (r ++ [UInt8.ofNat (48 + k % 10)]).reverse) := by
          show _ = _
          rw [hd.out, dec_last k hq]; simp
        clear hd
        obtain ⟨R, HR⟩ : ∃ R, Hid (R = r ++ [UInt8.ofNat (48 + k % 10)]) := ⟨_, rfl⟩
        have hR0 : 0 < R.length := by rw [HR.out]; simp
        have hR1 : R.length ≤ 21 := by rw [HR.out]; simp; omega
        rw [← HR.out] at hown2 HD
        clear HR
        obtain ⟨g, cap, hv, hgb⟩ : ∃ g cap, v' = .slice (some ⟨g, 0, none⟩) R.length cap ∧ g < w1.heap.size := by
          rcases hown2.2 with ⟨_, h⟩ | ⟨g, cap, cur, hv, _, hg, _⟩
          · omega
          · exact ⟨g, cap, hv, (Array.getElem?_eq_some_iff.1 hg).1⟩
        rw [hv] at hown2 ⊢
        have hcR : ∀ j, j < R.length → w1.cell? ⟨g, j, none⟩ = some (.int .u8 ((R[j]?.getD 0).toNat : Int)) := by
          intro j hj
          have := hown2.cells (g := g) rfl j _ (show (Lib.byteCells R)[j]? = some (.int .u8 ((R[j]?.getD 0).toNat : Int)) by simp [Lib.byteCells, hj])
          rw [Addr.add_lit] at this; simpa using this
        clear hv hown2
        go_wp2_with (at_builtin; refine wpList_append_own _ rfl _ _ 22 rfl w1.heap.size 5 i0 (.int .u8 0) 1 1 Ybad.underlying22 hi hz0 hz1 hz2 rfl (by decide) _ _ _ rfl (World.ownsRow_nil _ _ _ _) ⟨w1.heap.size, 0, none⟩ 1 1 [Value.int .u8 45] rfl rfl (cell_one_new _ _ _) ?e2 ?e3 ?e4 ?e5 ?_)
        case e2 => intro u hu; simp at hu; subst hu; rfl
        case e3 => unfold maxLen; omega
        case e4 => omega
        case e5 => simp
        intro v0 w0 hown0 hgrow0 _
        have hnx0 : Below w1.heap.size w1 w0 := ((Below.refl _ _).alloc (Nat.le_refl _) _).grown hgrow0 (by simp) (fun k hk => by cases hk)
        have hown0' : w0.ownsRow w1.heap.size 5 1 v0 (1 + (R.length - R.length)) (Lib.byteCells (45 :: (R.drop R.length).reverse)) := by
          simpa [Lib.byteCells] using hown0
        clear hown0 hgrow0
        go_wp2
        go_loopw [6, 7] (fun v i wr => ∃ k : Nat, k ≤ R.length ∧ i = .int .i64 ((k : Int) - 1) ∧ wr.ownsRow w1.heap.size 5 1 v (1 + (R.length - k)) (Lib.byteCells (45 :: (R.drop k).reverse)) ∧ Below w1.heap.size w1 wr) (fun _ i _ => (intOf i + 1).toNat)
        case atStart => exact ⟨R.length, Nat.le_refl _, rfl, hown0', hnx0⟩
        case round =>
          obtain ⟨k, hk, rfl, hown, hnx⟩ := hrel
          rcases k with _ | m
          · go_wp2
            go_ret
            have hsz1 := hnx'.size
            refine ⟨_, rfl, ?_, hnx'.trans (hnx.mono hsz1)⟩
            rw [HD.out]
            have := own_base_le hown hsz1
            simpa [Nat.add_comm] using this
          · have hcm : wr.cell? ⟨g, m, none⟩ = some (.int .u8 ((R[m]?.getD 0).toNat : Int)) := (hnx.cell hgb).trans (hcR m (by omega))
            have hsz1 := hnx.size
            go_wp2_with (at_builtin; refine wpList_append_own _ rfl _ _ 22 rfl w1.heap.size 5 i0 (.int .u8 0) 1 1 Ybad.underlying22 hi hz0 hz1 hz2 rfl (by decide) _ _ _ rfl (hown.alloc _) ⟨wr.heap.size, 0, none⟩ 1 1 [Value.int .u8 ((R[m]?.getD 0).toNat : Int)] rfl rfl (cell_one_new _ _ _) ?d2 ?d3 ?d4 ?d5 ?_)
            case d2 => intro u hu; simp at hu; subst hu; rfl
            case d3 => unfold maxLen; omega
            case d4 => omega
            case d5 => simp; omega
            · intro v2 w2 hown' hgrow _
              have hnx2 : Below w1.heap.size w1 w2 := (hnx.alloc (by omega) _).grown hgrow (by simp; omega) (fun k hk => (hown.lt k hk).1)
              have hownm : w2.ownsRow w1.heap.size 5 1 v2 (1 + (R.length - m)) (Lib.byteCells (45 :: (R.drop m).reverse)) := by
                rw [byteCells_snoc] at hown'
                have e1 : (R.drop (m + 1)).reverse ++ [R[m]?.getD 0] = (R.drop m).reverse := by
                  rw [List.drop_eq_getElem_cons (show m < R.length by omega), List.reverse_cons, List.getElem?_eq_getElem (show m < R.length by omega)]; rfl
                rw [List.cons_append, e1, show 1 + (R.length - (m + 1)) + 1 = 1 + (R.length - m) by omega] at hown'
                exact hown'
              clear hown' hgrow hown hnx
              go_wp2
              go_roundw
              case rel => exact ⟨m, by omega, by go_num, hownm, hnx2⟩
              case measure => simp [intOf]
      · have hz : ((k : Int) / 10 == 0) = false := by simp; omega
        go_wp2
        go_roundw
        case rel => exact ⟨k / 10, _, by omega, by go_num, by show _ = _; rw [hd.out, dec_step k hq]; simp, hown2, hnx'⟩
        case measure => simp [intOf]; omega

theorem dec_any (n : Int) (h0 : -9223372036854775808 ≤ n) (h1 : n ≤ 9223372036854775807) (w : World) :
    Calls Ybad.prog 5 #[.int .i64 n] w fun e w' => ∃ v, e = .returned v ∧ w'.ownsRow w.heap.size 5 1 v (Lib.itoa n).length (Lib.byteCells (Lib.itoa n)) ∧ Below w.heap.size w w' := by
  by_cases hn : n < 0
  · obtain ⟨u, rfl⟩ : ∃ u : Nat, n = -(u : Int) := ⟨n.natAbs, by omega⟩
    have e : Lib.itoa (-(u : Int)) = 45 :: Lib.decDigits u := by unfold Lib.itoa; rw [if_pos hn]; simp
    rw [e]
    exact dec_neg u (by omega) (by omega) w
  · obtain ⟨u, rfl⟩ : ∃ u : Nat, n = u := ⟨n.toNat, by omega⟩
    have e : Lib.itoa (u : Int) = Lib.decDigits u := by unfold Lib.itoa; rw [if_neg hn]; simp
    rw [e]
    exact dec_nonneg u (by omega) w

end Go.Proofs.YbulkaezmDoor
