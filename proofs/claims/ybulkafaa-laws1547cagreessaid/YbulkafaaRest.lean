/-
  LawS1547CAgrees behind its tables' loop: a declaration of its own.
-/
import Derived.Test.YbulkafaaStage
import Derived.Deep.DeepCutAuto
import Derived.Deep.CutBlock
namespace Go.Proofs.Ybulkafaa
open Go.RowKit Go.Sort

/-- What follows the first k statements. -/
def dropSeq : Nat → Code → Code
  | 0, c => c
  | k + 1, .seq _ b => dropSeq k b
  | _, c => c

set_option maxHeartbeats 40000000 in
set_option maxRecDepth 100000 in
theorem rest_part (out0 st ln : Int) (rx : Bool) (p : Option Addr) (n0 c0 : Nat) (Ln : Nat → Nat) (G D : Nat → Nat → Nat) (X : Nat → Nat → Bool) (w wc : World) (k : Nat) (A : Nat → Nat → Value) (o0 : 0 ≤ out0) (o1 : out0 ≤ 255) (s0 : 0 ≤ st) (s1 : st ≤ 65535) (l0 : 0 ≤ ln) (l1 : ln ≤ 255)
    (hsm : Hid (∀ j, j < k → Ln j ≤ 1024)) (HKM : Hid (k = min n0 7)) (hO : OUT w wc k A (levelT n0 Ln G D X) #[.int .u16 st, .int .u8 ln, .bool rx]) (u6 u7 u12 u13 u15 u16 u17 u18 u32 u33 u34 u35 u36 u37 u38 u39 u40 u41 u42 u43 u44 u45 u46 u47 u50 u51 u52 u53 u54 u55 u56 u57 u58 u59 u60 u61 u62 u63 u64 u65 u66 u67 u68 u69 u70 u71 u72 u73 u74 u75 u76 u77 u78 u79 u80 u81 u82 u83 u84 u85 u86 u87 u88 u89 u90 u91 u92 u93 u94 u95 u96 u97 u98 u99 u100 u101 u102 u103 u104 u105 u106 u107 u108 u109 u110 u111 u112 u113 u114 u115 u116 u117 u118 u119 u120 u121 u122 u123 u124 u125 u126 u127 u128 u129 u130 u131 u132 u133 u134 u135 u136 u137 u138 : Value) :
    Code.wp Yba.prog (dropSeq 7 (Yba.f3.body.getD .skip)) (bodyPost Yba.prog Yba.f3 fun e w' => e = .returned (.bool true) ∧ Below w.heap.size w w') ⟨#[Value.int IntKind.u8 out0, Value.slice p n0 c0, Value.agg #[Value.int IntKind.u16 st, Value.int IntKind.u8 ln, Value.bool rx], undef, undef, Value.pointer (some { block := w.heap.size, off := 0 }), u6, u7, Value.pointer (some { block := w.heap.size + 1, off := 0 }), Value.pointer (some { block := w.heap.size + 1 + 1, off := 0 }), Value.pointer (some { block := w.heap.size + 1 + 1 + 1, off := 0 }), Value.pointer (some { block := w.heap.size + 1 + 1 + 1 + 1, off := 0 }), u12, u13, undef, u15, u16, u17, u18, undef, undef, undef, undef, undef, undef, undef, undef, undef, undef, Value.slice p n0 c0, Value.int IntKind.i64 (n0 : Int), Value.bool false, u32, u33, u34, u35, u36, u37, u38, u39, u40, u41, u42, u43, u44, u45, u46, u47, Value.agg #[Value.pointer none, Value.slice none 0 0, Value.slice none 0 0, Value.slice none 0 0, Value.slice none 0 0, Value.slice none 0 0, Value.slice none 0 0, Value.slice none 0 0, Value.slice none 0 0, Value.slice none 0 0, Value.slice none 0 0, Value.slice none 0 0, Value.slice none 0 0, Value.slice none 0 0, Value.slice none 0 0, Value.slice none 0 0, Value.int IntKind.i32 0], Value.pointer (some { block := w.heap.size + 1, off := 0 }), u50, u51, u52, u53, u54, u55, u56, u57, u58, u59, u60, u61, u62, u63, u64, u65, u66, u67, u68, u69, u70, u71, u72, u73, u74, u75, u76, u77, u78, u79, u80, u81, u82, u83, u84, u85, u86, u87, u88, u89, u90, u91, u92, u93, u94, u95, u96, u97, u98, u99, u100, u101, u102, u103, u104, u105, u106, u107, u108, u109, u110, u111, u112, u113, u114, u115, u116, u117, u118, u119, u120, u121, u122, u123, u124, u125, u126, u127, u128, u129, u130, u131, u132, u133, u134, u135, u136, u137, u138, undef, undef, undef, undef, undef, undef, undef, undef, undef, undef, undef, undef, undef, undef, undef, undef, undef, undef, undef, undef, undef, undef, undef, undef, undef, undef, undef, undef, undef, undef, undef, undef, undef, undef, undef, undef, undef, undef, undef, undef, undef, undef, undef, undef, undef, undef, undef, undef, undef, undef, undef, undef, undef, undef, undef, undef, undef, undef, undef, undef, undef, undef, undef, undef, undef, undef, undef, undef, undef, undef, undef, undef, undef, undef, undef, undef, undef, undef, undef, undef, undef, undef, undef, undef, undef, undef, undef, undef, undef, undef, undef, undef, undef, undef, undef, undef, undef, undef, undef], []⟩ wc := by
  conv => arg 2; whnf
  let Q' : Exit → Act → World → Prop := bodyPost Yba.prog Yba.f3 fun e w' => e = .returned (.bool true) ∧ Below w.heap.size w w'
  show Code.wp _ _ Q' _ _
  have hkm := HKM.out
  have hF := out_fin hO hkm
  have hOK := level_ok (G := G) (D := D) (X := X) hkm hsm.out
  have HF : Hid (∀ l, l < 7 → FinB (hz (w.heap.size + 5) wc) (fun r => A r l) (levelT n0 Ln G D X l)) := hF
  have HOK : Hid (∀ l, l < 7 → (levelT n0 Ln G D X l).length ≤ 1024 ∧ Ordered (levelT n0 Ln G D X l)) := hOK
  obtain ⟨T, HTT⟩ : ∃ T, Hid (T = levelT n0 Ln G D X) := ⟨_, rfl⟩
  rw [← HTT.out] at HF HOK
  have q0 : wc.cell? ⟨w.heap.size, 0, none⟩ = some (.int .u16 st) := by rw [cell_of_row _ _ 0 _ _ _ hO.rb]; rfl
  have q1 : wc.cell? ⟨w.heap.size, 1, none⟩ = some (.int .u8 ln) := by rw [cell_of_row _ _ 1 _ _ _ hO.rb]; rfl
  have q2 : wc.cell? ⟨w.heap.size, 2, none⟩ = some (.bool rx) := by rw [cell_of_row _ _ 2 _ _ _ hO.rb]; rfl
  have hwz := hO.zl
  have HAr : Hid (∀ r, r < 4 → Blk wc (w.heap.size + 1 + r) (bty r) (off r) (A r)) := hO.arr
  have hbel := hO.bel
  clear hkm hF hOK hO hsm
  obtain ⟨rs, hrs⟩ : ∃ rs : Nat, st % 600 = (rs : Int) := ⟨(st % 600).toNat, by omega⟩
  have hrb : rs < 600 := by omega
  obtain ⟨re, hre⟩ : ∃ re : Nat, (rs : Int) + ln % 8 = (re : Int) := ⟨(rs + ln % 8).toNat, by omega⟩
  have hreb : re < 700 := by omega
  obtain ⟨out, hout⟩ : ∃ out : Nat, out0 % 7 = (out : Int) := ⟨(out0 % 7).toNat, by omega⟩
  have houtb : out ≤ 6 := by omega
  have kS := fun W => key_any rs (by omega) W
  have kE := fun W => key_any re (by omega) W
  have hcall := nb_call (rx := rx) (levels_of HF.out HOK.out (HAr.out 0 (by omega))) houtb (show rs < 65536 by omega) (show re < 65536 by omega)
  unfold cCmp cCpt at hcall
  have hclr : clear T out rs re rx = clr T out rs re rx 7 := rfl
  rw [hclr] at hcall
  clear hclr
  have q2a : ∀ o1, (wc.alloc o1).cell? ⟨w.heap.size, 2, none⟩ = some (.bool rx) := fun o1 => by rw [World.cell?_alloc_past _ _ _ (by omega)]; exact q2
  have q2b : ∀ o1 o2, ((wc.alloc o1).alloc o2).cell? ⟨w.heap.size, 2, none⟩ = some (.bool rx) := fun o1 o2 => by rw [World.cell?_alloc_past _ _ _ (by simp; omega)]; exact q2a o1
  have q2c : ∀ o1 o2 o3, (((wc.alloc o1).alloc o2).alloc o3).cell? ⟨w.heap.size, 2, none⟩ = some (.bool rx) := fun o1 o2 o3 => by rw [World.cell?_alloc_past _ _ _ (by simp; omega)]; exact q2b o1 o2
  have q2d : ∀ o1 o2 o3 o4, ((((wc.alloc o1).alloc o2).alloc o3).alloc o4).cell? ⟨w.heap.size, 2, none⟩ = some (.bool rx) := fun o1 o2 o3 o4 => by rw [World.cell?_alloc_past _ _ _ (by simp; omega)]; exact q2c o1 o2 o3
  go_upto_region 35 with (fail)
  go_cut [21, 23] (fun u v wd => u = .int .i64 out ∧ v = .bool (clr T out rs re rx 7) ∧ Below wc.heap.size wc wd)
  case first =>
    go_region_with (first | (go_at_call_of 4 rs; refine (kS _).mono ?_; rintro e w' ⟨rfl, rfl⟩) | (go_at_call_of 4 re; refine (kE _).mono ?_; rintro e w' ⟨rfl, rfl⟩) | (go_at_call 6; refine hcall.mono ?_; rintro e w' ⟨rfl, hbl⟩))
    all_goals
      go_wp2_with fail
      go_meet
      exact ⟨rfl, rfl, hbl⟩
  case rest =>
    clear q2a q2b q2c q2d hcall kS kE
    obtain ⟨rfl, rfl, hbd⟩ := hcut
    clear hout
    have a1 := fun l (hl : l < 7) => cell_on hbd ((HAr.out 1 (by omega)).cell hl).1
    have a2 := fun l (hl : l < 7) => cell_on hbd ((HAr.out 2 (by omega)).cell hl).1
    have a3 := fun l (hl : l < 7) => cell_on hbd ((HAr.out 3 (by omega)).cell hl).1
    simp only [off, Nat.zero_add] at a1 a2 a3
    have q2' := cell_on hbd q2
    have hbw : Below w.heap.size w wc := hbel.trans (hbd.mono (by omega))
    generalize hans : clr T out rs re rx 7 = ans
    have HANS : Hid (clr T out rs re rx 7 = ans) := hans
    clear hans
    go_wp2
    go_loop [24, 25] (fun v i => ∃ l : Nat, out < l ∧ l ≤ 7 ∧ i = .int .i64 l ∧ v = .bool (clr T out rs re rx l)) (fun _ i => 7 - (intOf i).toNat)
    case atStart => exact ⟨out + 1, by omega, by omega, by go_num, by rw [clr_start]⟩
    case round =>
      obtain ⟨l, hl1, hl2, rfl, rfl⟩ := hrel
      by_cases hlt : l < 7
      · obtain ⟨_, rS, rE, rX⟩ := HF.out l hlt
        obtain ⟨pS, cS, eS, gS⟩ := fin_row rS
        obtain ⟨pE, cE, eE, gE⟩ := fin_row rE
        obtain ⟨pX, cX, eX, gX⟩ := fin_row rX
        have b1 := a1 l hlt
        have b2 := a2 l hlt
        have b3 := a3 l hlt
        have eS' : A 1 l = .slice pS (ints Tri.s (T l)).length cS := eS
        have eE' : A 2 l = .slice pE (ints Tri.e (T l)).length cE := eE
        have eX' : A 3 l = .slice pX (bools (T l)).length cX := eX
        rw [eS'] at b1
        rw [eE'] at b2
        rw [eX'] at b3
        have hnl : (T l).length ≤ 1024 := (HOK.out l hlt).1
        have hlS : (ints Tri.s (T l)).length = (T l).length := by simp [ints]
        have hlE : (ints Tri.e (T l)).length = (T l).length := by simp [ints]
        have hlX : (bools (T l)).length = (T l).length := by simp [bools]
        rw [hlS] at b1
        rw [hlE] at b2
        rw [hlX] at b3
        obtain ⟨cl, HCL⟩ : ∃ cl, Hid (cl = clr T out rs re rx l) := ⟨_, rfl⟩
        rw [← HCL.out]
        obtain ⟨n, HN⟩ : ∃ n, Hid (n = (T l).length) := ⟨_, rfl⟩
        rw [← HN.out] at b1 b2 b3 hnl
        clear rS rE rX eS eE eX eS' eE' eX' hlS hlE hlX a1 a2 a3
        go_wp2
        go_loop [24, 26] (fun v i => ∃ j : Nat, j ≤ n ∧ i = .int .i64 j ∧ v = .bool (cl && !part (T l) rs re rx j)) (fun _ i => n - (intOf i).toNat)
        case atStart => exact ⟨0, Nat.zero_le _, rfl, by rw [part_zero]; simp⟩
        case round =>
          obtain ⟨j, hj, rfl, rfl⟩ := hrel
          by_cases hjl : j < n
          · have ht : (T l)[j]? = some ((T l)[j]'(by rw [← HN.out]; exact hjl)) := List.getElem?_eq_getElem _
            obtain ⟨t, ht'⟩ : ∃ t, (T l)[j]? = some t := ⟨_, ht⟩
            clear ht
            obtain ⟨bS, rfl, dS⟩ := gS j (.int .i64 t.s) (by simp [ints, ht'])
            obtain ⟨bE, rfl, dE⟩ := gE j (.int .i64 t.e) (by simp [ints, ht'])
            obtain ⟨bX, rfl, dX⟩ := gX j (.bool t.x) (by simp [bools, ht'])
            have dS' := cell_on hbd dS
            have dE' := cell_on hbd dE
            have dX' := cell_on hbd dX
            have hpart := part_succ (rs := rs) (re := re) (rx := rx) ht'
            rw [over_bef] at hpart
            have HP : Hid (part (T l) rs re rx (j + 1) = (part (T l) rs re rx j || (!bef t.e t.x rs && !bef re rx t.s))) := hpart
            obtain ⟨pj, HPJ⟩ : ∃ pj, Hid (pj = part (T l) rs re rx j) := ⟨_, rfl⟩
            rw [← HPJ.out]
            obtain ⟨tS, HtS⟩ : ∃ x, Hid (x = t.s) := ⟨_, rfl⟩
            obtain ⟨tE, HtE⟩ : ∃ x, Hid (x = t.e) := ⟨_, rfl⟩
            obtain ⟨tX, HtX⟩ : ∃ x, Hid (x = t.x) := ⟨_, rfl⟩
            rw [← HtS.out] at dS'
            rw [← HtE.out] at dE'
            rw [← HtX.out] at dX'
            clear hpart dS dE dX gS gE gX ht'
            go_upto_region 43 with (fail)
            go_cut [27] (fun v wd => v = .bool (bef tE tX rs) ∧ wd = wc)
            case first =>
              rcases Nat.lt_trichotomy tE rs with h | h | h
              · have h1 : (tE : Int) < (rs : Int) := by omega
                have HB : Hid (bef tE tX rs = true) := by show _ = _; simp [bef, h]
                clear h
                go_wp2_with fail
                go_meet
                exact ⟨by rw [HB.out], rfl⟩
              · have h1 : ¬ (tE : Int) < (rs : Int) := by omega
                have h2 : ((tE : Int) == (rs : Int)) = true := by simp; omega
                have HB : Hid (bef tE tX rs = tX) := by show _ = _; simp [bef, h]
                clear h
                go_wp2_with fail
                go_meet
                exact ⟨by rw [HB.out], rfl⟩
              · have h1 : ¬ (tE : Int) < (rs : Int) := by omega
                have h2 : ((tE : Int) == (rs : Int)) = false := by simp; omega
                have HB : Hid (bef tE tX rs = false) := by show _ = _; simp [bef, show ¬ tE < rs by omega, show ¬ tE = rs by omega]
                clear h
                go_wp2_with fail
                go_meet
                exact ⟨by rw [HB.out], rfl⟩
            case rest =>
              obtain ⟨rfl, rfl⟩ := hcut
              go_upto_region 44 with (fail)
              go_cut [28] (fun v wd => v = .bool (bef re rx tS) ∧ wd = wc)
              case first =>
                rcases Nat.lt_trichotomy re tS with h | h | h
                · have h1 : (re : Int) < (tS : Int) := by omega
                  have HB : Hid (bef re rx tS = true) := by show _ = _; simp [bef, h]
                  clear h
                  go_wp2_with fail
                  go_meet
                  exact ⟨by rw [HB.out], rfl⟩
                · have h1 : ¬ (re : Int) < (tS : Int) := by omega
                  have h2 : ((re : Int) == (tS : Int)) = true := by simp; omega
                  have HB : Hid (bef re rx tS = rx) := by show _ = _; simp [bef, h]
                  clear h
                  go_wp2_with fail
                  go_meet
                  exact ⟨by rw [HB.out], rfl⟩
                · have h1 : ¬ (re : Int) < (tS : Int) := by omega
                  have h2 : ((re : Int) == (tS : Int)) = false := by simp; omega
                  have HB : Hid (bef re rx tS = false) := by show _ = _; simp [bef, show ¬ re < tS by omega, show ¬ re = tS by omega]
                  clear h
                  go_wp2_with fail
                  go_meet
                  exact ⟨by rw [HB.out], rfl⟩
              case rest =>
                obtain ⟨rfl, rfl⟩ := hcut
                obtain ⟨B1, HB1⟩ : ∃ B, Hid (B = bef tE tX rs) := ⟨_, rfl⟩
                obtain ⟨B2, HB2⟩ : ∃ B, Hid (B = bef re rx tS) := ⟨_, rfl⟩
                rw [← HB1.out, ← HB2.out]
                have HQ : Hid (part (T l) rs re rx (j + 1) = (pj || (!B1 && !B2))) := by
                  show _ = _
                  rw [HP.out, HPJ.out, HB1.out, HB2.out, HtS.out, HtE.out, HtX.out]
                clear HP HB1 HB2
                cases B1 <;> cases B2
                all_goals
                  go_wp2
                  go_round
                  case rel => exact ⟨j + 1, by omega, by go_num, by rw [HQ.out]; simp⟩
                  case measure => simp [intOf]; omega
          · have hjn : j = (T l).length := by have := HN.out; omega
            have hfin : (cl && !part (T l) rs re rx j) = clr T out rs re rx (l + 1) := by rw [hjn, part_all, HCL.out, clr_succ _ _ _ _ _ _ hl1]
            rw [hfin]
            clear hjn hfin
            go_wp2
            go_round
            case rel => exact ⟨l + 1, by omega, by omega, by go_num, rfl⟩
            case measure => simp [intOf]; omega
      · have hl7 : l = 7 := by omega
        subst hl7
        rw [HANS.out]
        go_wp2
        go_ret
        exact ⟨by simp, hbw⟩

end Go.Proofs.Ybulkafaa
