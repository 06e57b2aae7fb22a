/-
  raise behind its split, walked: a declaration of its own.
-/
import Derived.Test.YbulkafceFmtRaiseM
import Derived.Deep.RegionHeld3
namespace Go.Proofs.YbulkafceFmt
open Go.RowKit

/-- What follows the first k statements. -/
def dropSeq : Nat → Code → Code
  | 0, c => c
  | k + 1, .seq _ b => dropSeq k b
  | _, c => c

set_option linter.unusedSimpArgs false in
set_option maxHeartbeats 8000000 in
set_option maxRecDepth 100000 in
theorem raise_rest {B rb ob ocap oN : Nat} {S : Nat → En} {sz j n c k : Nat} (X Y : List Nat) (i W T n0 : Nat) (w wc : World) (hj : j < 7) (hn : n < 7) (hT : TabAt 0 Lib.deBruijn64tab w) (h0 : 0 < B) (hTt : (S i).h + T ≤ 2 ^ j) (hfin : Inv n j c k (raised (sgs S X) (S i).sg (sgs S Y) W T))
    (hcut : PhB w wc B rb ob ocap oN S X Y i W sz j n0 (S i)) (u9 u12 u13 u14 u15 u16 u17 u18 u19 u20 u21 u22 u23 u24 u25 u26 u27 u28 u29 u30 u31 u32 u33 u34 u35 u36 u37 u38 u39 u40 u41 u42 u43 u44 u45 u46 u47 u48 u49 u50 u51 u52 u53 u54 u55 u56 u57 u58 u59 u60 u61 u62 u63 u64 u65 u66 u67 u68 u69 u70 u71 u72 u73 u74 u75 u76 u77 u78 u79 u80 u81 u82 u83 u84 u85 u86 u87 u88 u89 u90 u91 u92 u93 u94 u95 u96 u97 u98 u99 u100 u101 u102 u103 u104 u105 u106 u107 u108 u109 u110 u111 u112 u113 u114 u115 u116 u117 u118 u119 u120 u121 u122 u123 u124 u125 u126 u127 u128 u129 u130 u131 u132 u133 u134 u135 u136 u137 u138 u139 u140 u141 u142 u143 u144 u145 u146 u147 u148 u149 u150 u151 u152 u153 u154 u155 u156 u157 u158 u159 u160 u161 u162 u163 u164 u165 u166 u167 u168 u169 u170 u171 u172 u173 u174 u175 u176 u177 u178 u179 u180 u181 u182 u183 u184 u185 u186 u187 u188 u189 u190 u191 u192 u193 u194 u195 u196 u197 u198 u199 u200 u201 u202 u203 u204 u205 u206 u207 u208 u209 u210 : Value) :
    Code.wp Ybaf.prog (dropSeq 4 (Ybaf.f11.body.getD .skip)) (bodyPost Ybaf.prog Ybaf.f11 fun e w' => e = .returned (.tuple #[]) ∧ (∃ R' sb' scap' S' sz' live' O', FM w' B rb sb' scap' ob ocap oN R' S' sz' O' j ∧ St j S' sz' live' O' ∧ sgs S' live' = raised (sgs S X) (S i).sg (sgs S Y) W T ∧ sz' ≤ sz + 1) ∧ Below B w w' ∧ K44 w w') ⟨#[.pointer (some ⟨rb, 17, none⟩), .int .i64 (i : Int), .int .i64 (W : Int), .int .i64 (T : Int), undef, undef, undef, undef, .pointer (some ⟨n0, 0, none⟩), u9, undef, undef, u12, u13, u14, u15, u16, u17, u18, u19, u20, u21, u22, u23, u24, u25, u26, u27, u28, u29, u30, u31, u32, u33, u34, u35, u36, u37, u38, u39, u40, u41, u42, u43, u44, u45, u46, u47, u48, u49, u50, u51, u52, u53, u54, u55, u56, u57, u58, u59, u60, u61, u62, u63, u64, u65, u66, u67, u68, u69, u70, u71, u72, u73, u74, u75, u76, u77, u78, u79, u80, u81, u82, u83, u84, u85, u86, u87, u88, u89, u90, u91, u92, u93, u94, u95, u96, u97, u98, u99, u100, u101, u102, u103, u104, u105, u106, u107, u108, u109, u110, u111, u112, u113, u114, u115, u116, u117, u118, u119, u120, u121, u122, u123, u124, u125, u126, u127, u128, u129, u130, u131, u132, u133, u134, u135, u136, u137, u138, u139, u140, u141, u142, u143, u144, u145, u146, u147, u148, u149, u150, u151, u152, u153, u154, u155, u156, u157, u158, u159, u160, u161, u162, u163, u164, u165, u166, u167, u168, u169, u170, u171, u172, u173, u174, u175, u176, u177, u178, u179, u180, u181, u182, u183, u184, u185, u186, u187, u188, u189, u190, u191, u192, u193, u194, u195, u196, u197, u198, u199, u200, u201, u202, u203, u204, u205, u206, u207, u208, u209, u210], []⟩ wc := by
  conv => arg 2; whnf
  let Q' : Exit → Act → World → Prop := bodyPost Ybaf.prog Ybaf.f11 fun e w' => e = .returned (.tuple #[]) ∧ (∃ R' sb' scap' S' sz' live' O', FM w' B rb sb' scap' ob ocap oN R' S' sz' O' j ∧ St j S' sz' live' O' ∧ sgs S' live' = raised (sgs S X) (S i).sg (sgs S Y) W T ∧ sz' ≤ sz + 1) ∧ Below B w w' ∧ K44 w w'
  show Code.wp _ _ Q' _ _
  have mixed := mixed
  have h64 : (2 : Nat) ^ j ≤ 2 ^ 6 := Nat.pow_le_pow_right (by decide) (by omega)
  obtain ⟨hI, HhI⟩ : ∃ v, Hid (v = (S i).h) := ⟨_, rfl⟩
  obtain ⟨⟨sb5, scap5, R5, S5, sz5, O5, Z, hX5, hP5, hg5, hz5⟩, hb5⟩ := hcut
  obtain ⟨p1, p2, p3⟩ := sgs_parts hg5
  have hi5 : i < sz5 := hP5.ch.lt i (by simp)
  have hil5 : (i : Int) < (sz5 : Int) := by omega
  have hf5 : (S5 i).f = (S i).f := congrArg Sg.f p2
  have hn5 : (S5 i).n = W := congrArg Sg.n p2
  have hh5 : (S5 i).h = (S i).h := congrArg Sg.h p2
  have r17 := hX5.fm.roomCell.1
  have t2 := hX5.fm.segCell hi5 (k := 2) (by omega)
  simp only [fld] at t2
  rw [hh5, ← HhI.out] at t2
  have f2 := hX5.fm.seg.free (i * 6 + 2)
  have c3 : IntKind.i64.wrap ((hI : Int) + (T : Int)) = (hI : Int) + (T : Int) := by rw [HhI.out]; simp [IntKind.wrap, IntKind.signed, IntKind.bits]; omega
  have hX6 := hX5.setHeight hi5 (hI + T)
  simp only [Int.natCast_add] at hX6
  have hb6 : Below B w (wc.setCell ⟨sb5, i * 6 + 2, none⟩ (.int .i64 ((hI : Int) + (T : Int)))) := hb5.setCell hX5.fm.Bb.2.1 _
  have hP6 := hP5.turn { S5 i with h := hI + T } ⟨rfl, rfl, rfl⟩
  obtain ⟨nX, nZ, _⟩ := hP5.ch.ne
  have hg6 := sgs_raise (T := T) (e := { S5 i with h := hI + T }) nX nZ hg5 (by show (⟨(S5 i).f, (S5 i).n, hI + T⟩ : Sg) = _; rw [hf5, hn5, HhI.out])
  have h6i : upd S5 i { S5 i with h := hI + T } i = { S5 i with h := hI + T } := upd_self _ _ _
  have h6k : ∀ m, m ≠ i → upd S5 i { S5 i with h := hI + T } m = S5 m := fun m hm => upd_ne _ _ hm
  go_upto_region 12 with (fail)
  obtain ⟨w6, HW6⟩ : ∃ w6, Hid (w6 = wc.setCell ⟨sb5, i * 6 + 2, none⟩ (.int .i64 ((hI : Int) + (T : Int)))) := ⟨_, rfl⟩
  rw [← HW6.out] at hX6 hb6 ⊢
  obtain ⟨S6, HS6⟩ : ∃ S6, Hid (S6 = upd S5 i { S5 i with h := hI + T }) := ⟨_, rfl⟩
  rw [← HS6.out] at hX6 hP6 hg6 h6i h6k
  clear HW6 hX5 hb5 r17 t2 f2 c3 HS6
  have r17 := hX6.fm.roomCell.1
  have t3 := hX6.fm.segCell hi5 (k := 3) (by omega)
  have t2 := hX6.fm.segCell hi5 (k := 2) (by omega)
  simp only [fld] at t3 t2
  have hh6 : (S6 i).h = hI + T := by rw [h6i]
  rw [hh6, Int.natCast_add] at t2
  have hle6 : (S6 i).h ≤ 2 ^ j := by rw [hh6, HhI.out]; exact hTt
  obtain ⟨hpi, hxi⟩ := hP6.ch.at
  have hT6 : ∀ w', Below B w w' → TabAt 0 Lib.deBruijn64tab w' := fun w' hb => TabAt.below hT h0 hb
  obtain ⟨pI, HpI⟩ : ∃ v, Hid (v = (S6 i).p) := ⟨_, rfl⟩
  rw [← HpI.out] at t3 hpi
  have HPI : Hid (pI = lastOr (-1) X) := hpi
  clear hpi
  have apart : (∀ X' q, X = X' ++ [q] → (S q).h ≠ (S i).h + T) → Calls Ybaf.prog 14 #[.pointer (some ⟨rb, 17, none⟩), .int .i64 (i : Int)] w6.drew fun e w' => e = .returned (.tuple #[]) ∧ (∃ R' sb' scap' S' sz' live' O', FM w' B rb sb' scap' ob ocap oN R' S' sz' O' j ∧ St j S' sz' live' O' ∧ sgs S' live' = raised (sgs S X) (S i).sg (sgs S Y) W T ∧ sz' ≤ sz + 1) ∧ Below B w w' ∧ K44 w w' := by
    intro hne
    have hr := raised_apart (W := W) (Y := Y) hne
    have hb := hb6.trans (((Quiet.refl w6).drew).below B)
    refine (raise_end w6.drew hj hX6.drew hP6 hle6 (by rw [hg6, ← hr]; exact hfin) (hT6 _ hb)).mono fun e w' ⟨h1, ⟨R', S', O', h2, h3, h4⟩, h5, h6⟩ => ?_
    exact ⟨h1, ⟨R', _, _, S', _, _, O', h2, h3, by rw [h4, hg6, hr], hz5⟩, hb.trans h5, h6⟩
  go_upto_region 13 with (fail)
  have hpi := HPI.out
  clear HPI
  rcases List.eq_nil_or_concat X with rfl | ⟨X', q, hXq⟩
  · simp only [lastOr] at hpi
    have rop := apart (fun X' q e => by simp at e)
    clear apart hfin hT6
    have hd : decide ((0 : Int) ≤ pI) = false := by rw [hpi]; rfl
    clear hpi
    refine wp_region_held_drew (S := (fun _ => True)) (by kernel_rfl) ?_ (fun hHeld => ?_)
    · exact trivial
    refine wpAnyH_take (i := 0) (v := ?v1001) rfl (by kernel_rfl) (by kernel_rfl) (by kernel_rfl) (fun _ _ _ h => h) (Or.inl ⟨by kernel_rfl, ?h1001⟩) (by assumption) ?r1001
    case h1001 => (intro w hSw; (try dsimp only at hSw); go_simp <;> (with_reducible rfl))
    (try simp only [Act.put, List.getElem_toArray, List.getElem_cons_succ, List.getElem_cons_zero, List.setIfInBounds_toArray, List.set_cons_zero, List.set_cons_succ])
    refine wpAnyH_take (i := 1) (v := ?v1002) rfl (by kernel_rfl) (by kernel_rfl) (by kernel_rfl) (fun _ _ _ h => h) (Or.inl ⟨by kernel_rfl, ?h1002⟩) (by assumption) ?r1002
    case h1002 => (intro w hSw; (try dsimp only at hSw); go_simp <;> (with_reducible rfl))
    (try simp only [Act.put, List.getElem_toArray, List.getElem_cons_succ, List.getElem_cons_zero, List.setIfInBounds_toArray, List.set_cons_zero, List.set_cons_succ])
    refine wpAnyH_take (i := 2) (v := ?v1003) rfl (by kernel_rfl) (by kernel_rfl) (by kernel_rfl) (fun _ _ _ h => h) (Or.inl ⟨by kernel_rfl, ?h1003⟩) (by assumption) ?r1003
    case h1003 => (intro w hSw; (try dsimp only at hSw); go_simp <;> (with_reducible rfl))
    (try simp only [Act.put, List.getElem_toArray, List.getElem_cons_succ, List.getElem_cons_zero, List.setIfInBounds_toArray, List.set_cons_zero, List.set_cons_succ])
    refine wpAnyH_take (i := 3) (v := undef) rfl (by kernel_rfl) (by kernel_rfl) (by kernel_rfl) (fun _ _ _ h => h) (Or.inr ⟨by kernel_rfl, rfl⟩) (by assumption) ?r1004
    (try simp only [Act.put, List.getElem_toArray, List.getElem_cons_succ, List.getElem_cons_zero, List.setIfInBounds_toArray, List.set_cons_zero, List.set_cons_succ])
    refine wpAnyH_take (i := 4) (v := undef) rfl (by kernel_rfl) (by kernel_rfl) (by kernel_rfl) (fun _ _ _ h => h) (Or.inr ⟨by kernel_rfl, rfl⟩) (by assumption) ?r1005
    (try simp only [Act.put, List.getElem_toArray, List.getElem_cons_succ, List.getElem_cons_zero, List.setIfInBounds_toArray, List.set_cons_zero, List.set_cons_succ])
    refine wpAnyH_take (i := 5) (v := undef) rfl (by kernel_rfl) (by kernel_rfl) (by kernel_rfl) (fun _ _ _ h => h) (Or.inr ⟨by kernel_rfl, rfl⟩) (by assumption) ?r1006
    (try simp only [Act.put, List.getElem_toArray, List.getElem_cons_succ, List.getElem_cons_zero, List.setIfInBounds_toArray, List.set_cons_zero, List.set_cons_succ])
    refine wpAnyH_take (i := 6) (v := undef) rfl (by kernel_rfl) (by kernel_rfl) (by kernel_rfl) (fun _ _ _ h => h) (Or.inr ⟨by kernel_rfl, rfl⟩) (by assumption) ?r1007
    (try simp only [Act.put, List.getElem_toArray, List.getElem_cons_succ, List.getElem_cons_zero, List.setIfInBounds_toArray, List.set_cons_zero, List.set_cons_succ])
    refine wpAnyH_take (i := 7) (v := undef) rfl (by kernel_rfl) (by kernel_rfl) (by kernel_rfl) (fun _ _ _ h => h) (Or.inr ⟨by kernel_rfl, rfl⟩) (by assumption) ?r1008
    (try simp only [Act.put, List.getElem_toArray, List.getElem_cons_succ, List.getElem_cons_zero, List.setIfInBounds_toArray, List.set_cons_zero, List.set_cons_succ])
    refine wpAnyH_take (i := 8) (v := undef) rfl (by kernel_rfl) (by kernel_rfl) (by kernel_rfl) (fun _ _ _ h => h) (Or.inr ⟨by kernel_rfl, rfl⟩) (by assumption) ?r1009
    (try simp only [Act.put, List.getElem_toArray, List.getElem_cons_succ, List.getElem_cons_zero, List.setIfInBounds_toArray, List.set_cons_zero, List.set_cons_succ])
    refine wpAnyH_take (i := 9) (v := undef) rfl (by kernel_rfl) (by kernel_rfl) (by kernel_rfl) (fun _ _ _ h => h) (Or.inr ⟨by kernel_rfl, rfl⟩) (by assumption) ?r1010
    (try simp only [Act.put, List.getElem_toArray, List.getElem_cons_succ, List.getElem_cons_zero, List.setIfInBounds_toArray, List.set_cons_zero, List.set_cons_succ])
    refine wpAnyH_take (i := 10) (v := undef) rfl (by kernel_rfl) (by kernel_rfl) (by kernel_rfl) (fun _ _ _ h => h) (Or.inr ⟨by kernel_rfl, rfl⟩) (by assumption) ?r1011
    (try simp only [Act.put, List.getElem_toArray, List.getElem_cons_succ, List.getElem_cons_zero, List.setIfInBounds_toArray, List.set_cons_zero, List.set_cons_succ])
    refine wpAnyH_take (i := 11) (v := undef) rfl (by kernel_rfl) (by kernel_rfl) (by kernel_rfl) (fun _ _ _ h => h) (Or.inr ⟨by kernel_rfl, rfl⟩) (by assumption) ?r1012
    (try simp only [Act.put, List.getElem_toArray, List.getElem_cons_succ, List.getElem_cons_zero, List.setIfInBounds_toArray, List.set_cons_zero, List.set_cons_succ])
    refine wpAnyH_take (i := 12) (v := undef) rfl (by kernel_rfl) (by kernel_rfl) (by kernel_rfl) (fun _ _ _ h => h) (Or.inr ⟨by kernel_rfl, rfl⟩) (by assumption) ?r1013
    (try simp only [Act.put, List.getElem_toArray, List.getElem_cons_succ, List.getElem_cons_zero, List.setIfInBounds_toArray, List.set_cons_zero, List.set_cons_succ])
    refine wpAnyH_take (i := 13) (v := undef) rfl (by kernel_rfl) (by kernel_rfl) (by kernel_rfl) (fun _ _ _ h => h) (Or.inr ⟨by kernel_rfl, rfl⟩) (by assumption) ?r1014
    (try simp only [Act.put, List.getElem_toArray, List.getElem_cons_succ, List.getElem_cons_zero, List.setIfInBounds_toArray, List.set_cons_zero, List.set_cons_succ])
    refine wpAnyH_take (i := 14) (v := undef) rfl (by kernel_rfl) (by kernel_rfl) (by kernel_rfl) (fun _ _ _ h => h) (Or.inr ⟨by kernel_rfl, rfl⟩) (by assumption) ?r1015
    (try simp only [Act.put, List.getElem_toArray, List.getElem_cons_succ, List.getElem_cons_zero, List.setIfInBounds_toArray, List.set_cons_zero, List.set_cons_succ])
    refine wpAnyH_take (i := 15) (v := undef) rfl (by kernel_rfl) (by kernel_rfl) (by kernel_rfl) (fun _ _ _ h => h) (Or.inr ⟨by kernel_rfl, rfl⟩) (by assumption) ?r1016
    (try simp only [Act.put, List.getElem_toArray, List.getElem_cons_succ, List.getElem_cons_zero, List.setIfInBounds_toArray, List.set_cons_zero, List.set_cons_succ])
    refine wpAnyH_take (i := 16) (v := undef) rfl (by kernel_rfl) (by kernel_rfl) (by kernel_rfl) (fun _ _ _ h => h) (Or.inr ⟨by kernel_rfl, rfl⟩) (by assumption) ?r1017
    (try simp only [Act.put, List.getElem_toArray, List.getElem_cons_succ, List.getElem_cons_zero, List.setIfInBounds_toArray, List.set_cons_zero, List.set_cons_succ])
    refine wpAnyH_take (i := 17) (v := undef) rfl (by kernel_rfl) (by kernel_rfl) (by kernel_rfl) (fun _ _ _ h => h) (Or.inr ⟨by kernel_rfl, rfl⟩) (by assumption) ?r1018
    (try simp only [Act.put, List.getElem_toArray, List.getElem_cons_succ, List.getElem_cons_zero, List.setIfInBounds_toArray, List.set_cons_zero, List.set_cons_succ])
    refine wpAnyH_take (i := 18) (v := undef) rfl (by kernel_rfl) (by kernel_rfl) (by kernel_rfl) (fun _ _ _ h => h) (Or.inr ⟨by kernel_rfl, rfl⟩) (by assumption) ?r1019
    (try simp only [Act.put, List.getElem_toArray, List.getElem_cons_succ, List.getElem_cons_zero, List.setIfInBounds_toArray, List.set_cons_zero, List.set_cons_succ])
    refine wpAnyH_take (i := 19) (v := undef) rfl (by kernel_rfl) (by kernel_rfl) (by kernel_rfl) (fun _ _ _ h => h) (Or.inr ⟨by kernel_rfl, rfl⟩) (by assumption) ?r1020
    (try simp only [Act.put, List.getElem_toArray, List.getElem_cons_succ, List.getElem_cons_zero, List.setIfInBounds_toArray, List.set_cons_zero, List.set_cons_succ])
    refine wpAnyH_take (i := 20) (v := ?v1021) rfl (by kernel_rfl) (by kernel_rfl) (by kernel_rfl) (fun _ _ _ h => h) (Or.inl ⟨by kernel_rfl, ?h1021⟩) (by assumption) ?r1021
    case h1021 => (intro w hSw; (try dsimp only at hSw); go_simp <;> (with_reducible rfl))
    (try simp only [Act.put, List.getElem_toArray, List.getElem_cons_succ, List.getElem_cons_zero, List.setIfInBounds_toArray, List.set_cons_zero, List.set_cons_succ])
    refine wpAnyH_done (by kernel_rfl) ?_ _
    clear hHeld
    go_wp2_with (go_at_call 14; refine rop.mono ?_; rintro en w8 ⟨rfl, hpost⟩; refine Hid.out ?_)
    refine Lib.hid ?_
    go_wp2
    first | go_end0 | refine bodyPost_ret (results_none rfl _ _ _) rfl ?_
    exact ⟨rfl, hpost⟩
  · rw [List.concat_eq_append] at hXq
    subst hXq
    have hpq : pI = (q : Int) := by rw [hpi, lastOr_snoc]
    clear hpi
    subst hpq
    have hq5 : q < sz5 := hP6.ch.lt q (by simp)
    have hql5 : (q : Int) < (sz5 : Int) := by omega
    have hqi : q ≠ i := nX q (by simp)
    have hc0 : decide ((0 : Int) ≤ (q : Int)) = true := decide_eq_true (by omega)
    have u2 := hX6.fm.segCell hq5 (k := 2) (by omega)
    simp only [fld] at u2
    have hqh : (S6 q).sg = (S q).sg := by
      rw [h6k q hqi]
      have := p1
      simp [sgs] at this
      exact this.2
    by_cases hqe : (S q).h = (S i).h + T
    · have hjn := raised_join (X' := X') (W := W) (Y := Y) hqe
      have hq6h : (S6 q).h = hI + T := by
        have e1 : (S6 q).h = (S q).h := congrArg Sg.h hqh
        rw [e1, HhI.out]; exact hqe
      have hq6n : (S6 q).n = (S q).n := congrArg Sg.n hqh
      have hq6f : (S6 q).f = (S q).f := congrArg Sg.f hqh
      have hi6n : (S6 i).n = W := by rw [h6i]; exact hn5
      rw [hq6h, Int.natCast_add] at u2
      have hcq : ((hI : Int) + (T : Int) == (hI : Int) + (T : Int)) = true := beq_self_eq_true _
      have hE : X' ++ [q] ++ i :: Z = X' ++ q :: i :: Z := by simp
      rw [hE] at hP6
      have hX6' : sgs S6 X' = sgs S X' := by
        have e1 : sgs S6 X' = sgs S5 X' := sgs_congr fun m hm => by rw [h6k m (nX m (by simp [hm]))]
        have e2 := p1
        simp only [sgs, List.map_append] at e2
        rw [e1]
        exact (List.append_inj e2 (by simp)).1
      have hZ6' : sgs S6 Z = restOf (S i).sg W ++ sgs S Y := by
        rw [← p3]
        exact sgs_congr fun m hm => by rw [h6k m (nZ m hm)]
      have hRJ : raised (sgs S (X' ++ [q])) (S i).sg (sgs S Y) W T = sgs S6 X' ++ ⟨(S6 q).f, (S q).n + W, (S6 q).h⟩ :: sgs S6 Z := by
        rw [hjn, hX6', hZ6', hq6f, show (S6 q).h = (S q).h from congrArg Sg.h hqh]
      obtain ⟨hPJ, hgJ⟩ := Part.join hP6 (join_dist hfin hRJ)
      have hend : sgs (joinS S6 q i) (X' ++ q :: Z) = raised (sgs S (X' ++ [q])) (S i).sg (sgs S Y) W T := by
        rw [hgJ, hRJ, hq6n, hi6n]
      have hJh : (joinS S6 q i q).h ≤ 2 ^ j := by
        have e1 : (joinS S6 q i q).sg = ⟨(S6 q).f, (S6 q).n + (S6 i).n, (S6 q).h⟩ := by
          have e2 := hgJ
          simp only [sgs, List.map_append, List.map_cons] at e2
          exact (List.cons.inj (List.append_inj e2 (by simp)).2).1
        have e2 : (joinS S6 q i q).h = (S6 q).h := congrArg Sg.h e1
        rw [e2, hq6h, ← hh6]; exact hle6
      have hnq : (S q).n + W ≤ 64 := by
        have hb := hfin.cont.bounds.2 ⟨(S6 q).f, (S q).n + W, (S6 q).h⟩ (by rw [hRJ]; simp)
        have : (2 : Nat) ^ n ≤ 2 ^ 6 := Nat.pow_le_pow_right (by decide) (by omega)
        simp only at hb
        omega
      have hsl := hP6.slot q (by simp) hqi
      have hOq : (S6 q).h < 2 ^ j → O5 (dep j (S6 q).h) = some q := fun ho => (hP6.op _ dep_le_j q).2 ⟨by simp, hqi, ho, rfl⟩
      have cls := close_x q w6.drew hj hX6.drew hq5 hsl hOq (hT6 _ hb6.drew)
      have hxZ : (S6 i).x = hdOr Z (-1) := hxi
      have HPJ : Hid (Part j (joinS S6 q i) sz5 (X' ++ q :: Z) q (if (S6 q).h < 2 ^ j then upd O5 (dep j (S6 q).h) none else O5)) := hPJ
      have HJI : Hid (Inv n j c k (sgs (joinS S6 q i) (X' ++ q :: Z))) := by refine Lib.hid ?_; rw [hend]; exact hfin
      have hZlt : ∀ y r, Z = y :: r → y < sz5 ∧ y ≠ q := fun y r e => by
        subst e
        refine ⟨hPJ.ch.lt y (by simp), hPJ.ch.ne.2.1 y (by simp)⟩
      clear apart hPJ hsl hOq hgJ hRJ hX6' hZ6' hjn p1 p2 p3 hg5 hg6 hP5 hP6 hE hfin nX nZ
      have hqi' : ¬ q = i := hqi
      have hqi2 : ¬ i = q := fun e => hqi e.symm
      refine wp_region_held_drew (S := (fun w' => w'.cell? ⟨rb, 17, none⟩ = some (.slice (some ⟨sb5, 0, none⟩) sz5 scap5) ∧ w'.cell? ⟨sb5, q * 6 + 2, none⟩ = some (.int .i64 ((hI : Int) + (T : Int))) ∧ w'.cell? ⟨sb5, i * 6 + 2, none⟩ = some (.int .i64 ((hI : Int) + (T : Int))))) (by kernel_rfl) ?_ (fun hHeld => ?_)
      · exact ⟨r17, u2, t2⟩
      refine wpAnyH_take (i := 0) (v := ?v1043) rfl (by kernel_rfl) (by kernel_rfl) (by kernel_rfl) (fun _ _ _ h => h) (Or.inl ⟨by kernel_rfl, ?h1043⟩) (by assumption) ?r1043
      case h1043 => (intro w hSw; (try dsimp only at hSw); go_simp <;> (with_reducible rfl))
      (try simp only [Act.put, List.getElem_toArray, List.getElem_cons_succ, List.getElem_cons_zero, List.setIfInBounds_toArray, List.set_cons_zero, List.set_cons_succ])
      refine wpAnyH_take (i := 1) (v := ?v1044) rfl (by kernel_rfl) (by kernel_rfl) (by kernel_rfl) (fun _ _ _ h => h) (Or.inl ⟨by kernel_rfl, ?h1044⟩) (by assumption) ?r1044
      case h1044 => (intro w hSw; (try dsimp only at hSw); go_simp <;> (with_reducible rfl))
      (try simp only [Act.put, List.getElem_toArray, List.getElem_cons_succ, List.getElem_cons_zero, List.setIfInBounds_toArray, List.set_cons_zero, List.set_cons_succ])
      refine wpAnyH_take (i := 2) (v := ?v1045) rfl (by kernel_rfl) (by kernel_rfl) (by kernel_rfl) (fun _ _ _ h => h) (Or.inl ⟨by kernel_rfl, ?h1045⟩) (by assumption) ?r1045
      case h1045 => (intro w hSw; (try dsimp only at hSw); go_simp <;> (with_reducible rfl))
      (try simp only [Act.put, List.getElem_toArray, List.getElem_cons_succ, List.getElem_cons_zero, List.setIfInBounds_toArray, List.set_cons_zero, List.set_cons_succ])
      refine wpAnyH_take (i := 3) (v := ?v1046) rfl (by kernel_rfl) (by kernel_rfl) (by kernel_rfl) (fun _ _ _ h => h) (Or.inl ⟨by kernel_rfl, ?h1046⟩) (by assumption) ?r1046
      case h1046 => (intro w hSw; (try dsimp only at hSw); go_simp <;> (with_reducible rfl))
      (try simp only [Act.put, List.getElem_toArray, List.getElem_cons_succ, List.getElem_cons_zero, List.setIfInBounds_toArray, List.set_cons_zero, List.set_cons_succ])
      refine wpAnyH_take (i := 4) (v := ?v1047) rfl (by kernel_rfl) (by kernel_rfl) (by kernel_rfl) (fun _ _ _ h => h) (Or.inl ⟨by kernel_rfl, ?h1047⟩) (by assumption) ?r1047
      case h1047 => (intro w hSw; (try dsimp only at hSw); go_simp <;> (with_reducible rfl))
      (try simp only [Act.put, List.getElem_toArray, List.getElem_cons_succ, List.getElem_cons_zero, List.setIfInBounds_toArray, List.set_cons_zero, List.set_cons_succ])
      refine wpAnyH_take (i := 5) (v := ?v1048) rfl (by kernel_rfl) (by kernel_rfl) (by kernel_rfl) (fun _ _ _ h => h) (Or.inl ⟨by kernel_rfl, ?h1048⟩) (by assumption) ?r1048
      case h1048 => (intro w hSw; (try dsimp only at hSw); go_simp <;> (with_reducible rfl))
      (try simp only [Act.put, List.getElem_toArray, List.getElem_cons_succ, List.getElem_cons_zero, List.setIfInBounds_toArray, List.set_cons_zero, List.set_cons_succ])
      refine wpAnyH_take (i := 6) (v := ?v1049) rfl (by kernel_rfl) (by kernel_rfl) (by kernel_rfl) (fun _ _ _ h => h) (Or.inl ⟨by kernel_rfl, ?h1049⟩) (by assumption) ?r1049
      case h1049 => (intro w hSw; (try dsimp only at hSw); go_simp <;> (with_reducible rfl))
      (try simp only [Act.put, List.getElem_toArray, List.getElem_cons_succ, List.getElem_cons_zero, List.setIfInBounds_toArray, List.set_cons_zero, List.set_cons_succ])
      refine wpAnyH_take (i := 7) (v := ?v1050) rfl (by kernel_rfl) (by kernel_rfl) (by kernel_rfl) (fun _ _ _ h => h) (Or.inl ⟨by kernel_rfl, ?h1050⟩) (by assumption) ?r1050
      case h1050 => (intro w hSw; (try dsimp only at hSw); go_simp <;> (with_reducible rfl))
      (try simp only [Act.put, List.getElem_toArray, List.getElem_cons_succ, List.getElem_cons_zero, List.setIfInBounds_toArray, List.set_cons_zero, List.set_cons_succ])
      refine wpAnyH_take (i := 8) (v := ?v1051) rfl (by kernel_rfl) (by kernel_rfl) (by kernel_rfl) (fun _ _ _ h => h) (Or.inl ⟨by kernel_rfl, ?h1051⟩) (by assumption) ?r1051
      case h1051 => (intro w hSw; (try dsimp only at hSw); go_simp <;> (with_reducible rfl))
      (try simp only [Act.put, List.getElem_toArray, List.getElem_cons_succ, List.getElem_cons_zero, List.setIfInBounds_toArray, List.set_cons_zero, List.set_cons_succ])
      refine wpAnyH_take (i := 9) (v := ?v1052) rfl (by kernel_rfl) (by kernel_rfl) (by kernel_rfl) (fun _ _ _ h => h) (Or.inl ⟨by kernel_rfl, ?h1052⟩) (by assumption) ?r1052
      case h1052 => (intro w hSw; (try dsimp only at hSw); go_simp <;> (with_reducible rfl))
      (try simp only [Act.put, List.getElem_toArray, List.getElem_cons_succ, List.getElem_cons_zero, List.setIfInBounds_toArray, List.set_cons_zero, List.set_cons_succ])
      refine wpAnyH_take (i := 10) (v := ?v1053) rfl (by kernel_rfl) (by kernel_rfl) (by kernel_rfl) (fun _ _ _ h => h) (Or.inl ⟨by kernel_rfl, ?h1053⟩) (by assumption) ?r1053
      case h1053 => (intro w hSw; (try dsimp only at hSw); go_simp <;> (with_reducible rfl))
      (try simp only [Act.put, List.getElem_toArray, List.getElem_cons_succ, List.getElem_cons_zero, List.setIfInBounds_toArray, List.set_cons_zero, List.set_cons_succ])
      refine wpAnyH_take (i := 11) (v := ?v1054) rfl (by kernel_rfl) (by kernel_rfl) (by kernel_rfl) (fun _ _ _ h => h) (Or.inl ⟨by kernel_rfl, ?h1054⟩) (by assumption) ?r1054
      case h1054 => (intro w hSw; (try dsimp only at hSw); go_simp <;> (with_reducible rfl))
      (try simp only [Act.put, List.getElem_toArray, List.getElem_cons_succ, List.getElem_cons_zero, List.setIfInBounds_toArray, List.set_cons_zero, List.set_cons_succ])
      refine wpAnyH_take (i := 12) (v := ?v1055) rfl (by kernel_rfl) (by kernel_rfl) (by kernel_rfl) (fun _ _ _ h => h) (Or.inl ⟨by kernel_rfl, ?h1055⟩) (by assumption) ?r1055
      case h1055 => (intro w hSw; (try dsimp only at hSw); go_simp <;> (with_reducible rfl))
      (try simp only [Act.put, List.getElem_toArray, List.getElem_cons_succ, List.getElem_cons_zero, List.setIfInBounds_toArray, List.set_cons_zero, List.set_cons_succ])
      refine wpAnyH_take (i := 13) (v := ?v1056) rfl (by kernel_rfl) (by kernel_rfl) (by kernel_rfl) (fun _ _ _ h => h) (Or.inl ⟨by kernel_rfl, ?h1056⟩) (by assumption) ?r1056
      case h1056 => (intro w hSw; (try dsimp only at hSw); go_simp <;> (with_reducible rfl))
      (try simp only [Act.put, List.getElem_toArray, List.getElem_cons_succ, List.getElem_cons_zero, List.setIfInBounds_toArray, List.set_cons_zero, List.set_cons_succ])
      refine wpAnyH_take (i := 14) (v := ?v1057) rfl (by kernel_rfl) (by kernel_rfl) (by kernel_rfl) (fun _ _ _ h => h) (Or.inl ⟨by kernel_rfl, ?h1057⟩) (by assumption) ?r1057
      case h1057 => (intro w hSw; (try dsimp only at hSw); go_simp <;> (with_reducible rfl))
      (try simp only [Act.put, List.getElem_toArray, List.getElem_cons_succ, List.getElem_cons_zero, List.setIfInBounds_toArray, List.set_cons_zero, List.set_cons_succ])
      refine wpAnyH_take (i := 15) (v := ?v1058) rfl (by kernel_rfl) (by kernel_rfl) (by kernel_rfl) (fun _ _ _ h => h) (Or.inl ⟨by kernel_rfl, ?h1058⟩) (by assumption) ?r1058
      case h1058 => (intro w hSw; (try dsimp only at hSw); go_simp <;> (with_reducible rfl))
      (try simp only [Act.put, List.getElem_toArray, List.getElem_cons_succ, List.getElem_cons_zero, List.setIfInBounds_toArray, List.set_cons_zero, List.set_cons_succ])
      refine wpAnyH_take (i := 16) (v := ?v1059) rfl (by kernel_rfl) (by kernel_rfl) (by kernel_rfl) (fun _ _ _ h => h) (Or.inl ⟨by kernel_rfl, ?h1059⟩) (by assumption) ?r1059
      case h1059 => (intro w hSw; (try dsimp only at hSw); go_simp <;> (with_reducible rfl))
      (try simp only [Act.put, List.getElem_toArray, List.getElem_cons_succ, List.getElem_cons_zero, List.setIfInBounds_toArray, List.set_cons_zero, List.set_cons_succ])
      refine wpAnyH_take (i := 17) (v := ?v1060) rfl (by kernel_rfl) (by kernel_rfl) (by kernel_rfl) (fun _ _ _ h => h) (Or.inl ⟨by kernel_rfl, ?h1060⟩) (by assumption) ?r1060
      case h1060 => (intro w hSw; (try dsimp only at hSw); go_simp <;> (with_reducible rfl))
      (try simp only [Act.put, List.getElem_toArray, List.getElem_cons_succ, List.getElem_cons_zero, List.setIfInBounds_toArray, List.set_cons_zero, List.set_cons_succ])
      refine wpAnyH_take (i := 18) (v := ?v1061) rfl (by kernel_rfl) (by kernel_rfl) (by kernel_rfl) (fun _ _ _ h => h) (Or.inl ⟨by kernel_rfl, ?h1061⟩) (by assumption) ?r1061
      case h1061 => (intro w hSw; (try dsimp only at hSw); go_simp <;> (with_reducible rfl))
      (try simp only [Act.put, List.getElem_toArray, List.getElem_cons_succ, List.getElem_cons_zero, List.setIfInBounds_toArray, List.set_cons_zero, List.set_cons_succ])
      refine wpAnyH_take (i := 19) (v := ?v1062) rfl (by kernel_rfl) (by kernel_rfl) (by kernel_rfl) (fun _ _ _ h => h) (Or.inl ⟨by kernel_rfl, ?h1062⟩) (by assumption) ?r1062
      case h1062 => (intro w hSw; (try dsimp only at hSw); go_simp <;> (with_reducible rfl))
      (try simp only [Act.put, List.getElem_toArray, List.getElem_cons_succ, List.getElem_cons_zero, List.setIfInBounds_toArray, List.set_cons_zero, List.set_cons_succ])
      refine wpAnyH_take (i := 20) (v := ?v1063) rfl (by kernel_rfl) (by kernel_rfl) (by kernel_rfl) (fun _ _ _ h => h) (Or.inl ⟨by kernel_rfl, ?h1063⟩) (by assumption) ?r1063
      case h1063 => (intro w hSw; (try dsimp only at hSw); go_simp <;> (with_reducible rfl))
      (try simp only [Act.put, List.getElem_toArray, List.getElem_cons_succ, List.getElem_cons_zero, List.setIfInBounds_toArray, List.set_cons_zero, List.set_cons_succ])
      refine wpAnyH_done (by kernel_rfl) ?_ _
      clear hHeld
      go_wp2_with (go_at_call 16; refine cls.mono ?_; rintro en w8 ⟨rfl, ⟨R8, hX8⟩, hb8⟩; refine Hid.out ?_)
      refine Lib.hid ?_
      have hbb8 := hb6.drew.trans hb8
      clear cls hb8 hX6 hb6 r17 t2 t3 u2 hcq
      generalize hO8 : (if (S6 q).h < 2 ^ j then upd O5 (dep j (S6 q).h) none else O5) = O8 at hX8 HPJ
      have h8q : upd S6 q { S6 q with sl := -1 } q = { S6 q with sl := -1 } := upd_self _ _ _
      have h8i : upd S6 q { S6 q with sl := -1 } i = S6 i := upd_ne _ _ (fun e => hqi e.symm)
      have r17 := hX8.fm.roomCell.1
      have u1 := hX8.fm.segCell hq5 (k := 1) (by omega)
      have t1 := hX8.fm.segCell hi5 (k := 1) (by omega)
      simp only [fld] at u1 t1
      rw [h8q] at u1
      rw [h8i, hi6n] at t1
      have u1' : w8.cell? ⟨sb5, q * 6 + 1, none⟩ = some (.int .i64 ((S6 q).n : Int)) := u1
      clear u1
      obtain ⟨nQ, HnQ⟩ : ∃ v, Hid (v = (S6 q).n) := ⟨_, rfl⟩
      rw [← HnQ.out] at u1'
      have c4 : IntKind.i64.wrap ((nQ : Int) + (W : Int)) = (nQ : Int) + (W : Int) := by rw [HnQ.out, hq6n]; simp [IntKind.wrap, IntKind.signed, IntKind.bits]; omega
      have f1 := hX8.fm.seg.free (q * 6 + 1)
      have hX9 := hX8.drew.setNodes hq5 (nQ + W)
      simp only [Int.natCast_add] at hX9
      have hb9 : Below B w (w8.drew.setCell ⟨sb5, q * 6 + 1, none⟩ (.int .i64 ((nQ : Int) + (W : Int)))) := hbb8.drew.setCell hX8.fm.Bb.2.1 _
      go_upto_region 15 with (fail)
      go_cut [] (fun wd => FX wd B rb sb5 scap5 ob ocap oN R8 (upd (upd S6 q { S6 q with sl := -1 }) q { upd S6 q { S6 q with sl := -1 } q with n := nQ + W }) sz5 O8 j n0 (S i) w ∧ Below B w wd)
      case first =>
        go_region
        all_goals
          go_wp2_with fail
          go_meet
          exact ⟨hX9, hb9⟩
      case rest =>
        obtain ⟨hX9', hb9'⟩ := hcut
        clear hX9 hb9 hX8 hbb8 r17 u1' t1 f1 c4
        have hS9 : upd (upd S6 q { S6 q with sl := -1 }) q { upd S6 q { S6 q with sl := -1 } q with n := nQ + W } = upd S6 q { S6 q with sl := -1, n := nQ + W } := by rw [upd_self, upd_upd]
        rw [hS9] at hX9'
        have h9i : upd S6 q { S6 q with sl := -1, n := nQ + W } i = S6 i := upd_ne _ _ (fun e => hqi e.symm)
        have r17 := hX9'.fm.roomCell.1
        have t4 := hX9'.fm.segCell hi5 (k := 4) (by omega)
        have u4 := hX9'.fm.segCell hq5 (k := 4) (by omega)
        simp only [fld] at t4 u4
        rw [h9i] at t4
        have f4 := hX9'.fm.seg.free (q * 6 + 4)
        obtain ⟨xZ, HxZ⟩ : ∃ v, Hid (v = (S6 i).x) := ⟨_, rfl⟩
        rw [← HxZ.out] at t4 hxZ
        have HXZ : Hid (xZ = hdOr Z (-1)) := hxZ
        clear hxZ
        have hX10 := hX9'.setNext hq5 xZ
        have hb10 : Below B w (wc.setCell ⟨sb5, q * 6 + 4, none⟩ (.int .i64 xZ)) := hb9'.setCell hX9'.fm.Bb.2.1 _
        have hS10 : upd (upd S6 q { S6 q with sl := -1, n := nQ + W }) q { upd S6 q { S6 q with sl := -1, n := nQ + W } q with x := xZ } = upd S6 q { S6 q with n := (S6 q).n + (S6 i).n, x := (S6 i).x, sl := -1 } := by rw [upd_self, upd_upd, hi6n, ← HnQ.out, ← HxZ.out]
        rw [hS10] at hX10
        have hJ : joinS S6 q i = linkP (upd S6 q { S6 q with n := (S6 q).n + (S6 i).n, x := (S6 i).x, sl := -1 }) xZ q := by rw [HxZ.out]; rfl
        go_upto_if 198 with (fail)
        obtain ⟨w10, HW10⟩ : ∃ w10, Hid (w10 = wc.setCell ⟨sb5, q * 6 + 4, none⟩ (.int .i64 xZ)) := ⟨_, rfl⟩
        rw [← HW10.out] at hX10 hb10 ⊢
        clear HW10 hX9' hb9' r17 t4 u4 f4 hS9 hS10 h8q h8i h9i
        go_cut [] (fun wd => FX wd B rb sb5 scap5 ob ocap oN R8 (joinS S6 q i) sz5 O8 j n0 (S i) w ∧ Below B w wd)
        case first =>
          have hxZ := HXZ.out
          clear HXZ
          cases Z with
          | nil =>
            simp only [hdOr] at hxZ
            subst hxZ
            go_wp2_with fail
            go_meet
            rw [hJ]
            exact ⟨hX10, hb10⟩
          | cons y r =>
            simp only [hdOr] at hxZ
            obtain ⟨hy, hyq⟩ := hZlt y r rfl
            have hyl : (y : Int) < (sz5 : Int) := by omega
            have s3 := hX10.fm.segCell hy (k := 3) (by omega)
            have r17 := hX10.fm.roomCell.1
            simp only [fld] at s3
            have f3 := hX10.fm.seg.free (y * 6 + 3)
            have hX11 := hX10.setPrev hy (q : Int)
            have hb11 : Below B w (w10.setCell ⟨sb5, y * 6 + 3, none⟩ (.int .i64 (q : Int))) := hb10.setCell hX10.fm.Bb.2.1 _
            subst hxZ
            have hlk : joinS S6 q i = upd (upd S6 q { S6 q with n := (S6 q).n + (S6 i).n, x := (S6 i).x, sl := -1 }) y { upd S6 q { S6 q with n := (S6 q).n + (S6 i).n, x := (S6 i).x, sl := -1 } y with p := (q : Int) } := by
              rw [hJ]
              unfold linkP
              rw [if_pos (by omega)]
              rfl
            have hc9 : (0 : Int) ≤ (y : Int) := by omega
            go_wp2_with fail
            go_meet
            rw [hlk]
            exact ⟨hX11, hb11⟩
        case rest =>
          obtain ⟨hX12, hb12⟩ := hcut
          clear hX10 hb10 hJ
          have rop := raise_end wc hj hX12 HPJ.out hJh HJI.out (hT6 _ hb12)
          clear hT6 hX12
          go_wp2_with (go_at_call 14; refine rop.mono ?_; rintro en w13 ⟨rfl, hpost, hb13, hk13⟩; refine Hid.out ?_)
          refine Lib.hid ?_
          go_wp2
          first | go_end0 | refine bodyPost_ret (results_none rfl _ _ _) rfl ?_
          obtain ⟨R', S', O', g1, g2, g3⟩ := hpost
          exact ⟨rfl, ⟨R', _, _, S', _, _, O', g1, g2, by rw [g3, hend], hz5⟩, hb12.trans hb13, hk13⟩
    · have rop := apart (fun X2 q2 e => by
        obtain ⟨_, e2⟩ := List.append_inj' e rfl
        cases e2
        exact hqe)
      clear apart hfin hT6
      obtain ⟨hQ, HhQ⟩ : ∃ v, Hid (v = (S6 q).h) := ⟨_, rfl⟩
      rw [← HhQ.out] at u2
      have hne : ¬ ((hQ : Int) = (hI : Int) + (T : Int)) := fun e => by
        have e1 : (S6 q).h = (S q).h := congrArg Sg.h hqh
        rw [HhQ.out, e1, HhI.out] at e
        omega
      have hcq : ((hQ : Int) == (hI : Int) + (T : Int)) = false := beq_eq_false_iff_ne.2 hne
      refine wp_region_held_drew (S := (fun w' => w'.cell? ⟨rb, 17, none⟩ = some (.slice (some ⟨sb5, 0, none⟩) sz5 scap5) ∧ w'.cell? ⟨sb5, q * 6 + 2, none⟩ = some (.int .i64 (hQ : Int)) ∧ w'.cell? ⟨sb5, i * 6 + 2, none⟩ = some (.int .i64 ((hI : Int) + (T : Int))))) (by kernel_rfl) ?_ (fun hHeld => ?_)
      · exact ⟨r17, u2, t2⟩
      refine wpAnyH_take (i := 0) (v := ?v1022) rfl (by kernel_rfl) (by kernel_rfl) (by kernel_rfl) (fun _ _ _ h => h) (Or.inl ⟨by kernel_rfl, ?h1022⟩) (by assumption) ?r1022
      case h1022 => (intro w hSw; (try dsimp only at hSw); go_simp <;> (with_reducible rfl))
      (try simp only [Act.put, List.getElem_toArray, List.getElem_cons_succ, List.getElem_cons_zero, List.setIfInBounds_toArray, List.set_cons_zero, List.set_cons_succ])
      refine wpAnyH_take (i := 1) (v := ?v1023) rfl (by kernel_rfl) (by kernel_rfl) (by kernel_rfl) (fun _ _ _ h => h) (Or.inl ⟨by kernel_rfl, ?h1023⟩) (by assumption) ?r1023
      case h1023 => (intro w hSw; (try dsimp only at hSw); go_simp <;> (with_reducible rfl))
      (try simp only [Act.put, List.getElem_toArray, List.getElem_cons_succ, List.getElem_cons_zero, List.setIfInBounds_toArray, List.set_cons_zero, List.set_cons_succ])
      refine wpAnyH_take (i := 2) (v := ?v1024) rfl (by kernel_rfl) (by kernel_rfl) (by kernel_rfl) (fun _ _ _ h => h) (Or.inl ⟨by kernel_rfl, ?h1024⟩) (by assumption) ?r1024
      case h1024 => (intro w hSw; (try dsimp only at hSw); go_simp <;> (with_reducible rfl))
      (try simp only [Act.put, List.getElem_toArray, List.getElem_cons_succ, List.getElem_cons_zero, List.setIfInBounds_toArray, List.set_cons_zero, List.set_cons_succ])
      refine wpAnyH_take (i := 3) (v := ?v1025) rfl (by kernel_rfl) (by kernel_rfl) (by kernel_rfl) (fun _ _ _ h => h) (Or.inl ⟨by kernel_rfl, ?h1025⟩) (by assumption) ?r1025
      case h1025 => (intro w hSw; (try dsimp only at hSw); go_simp <;> (with_reducible rfl))
      (try simp only [Act.put, List.getElem_toArray, List.getElem_cons_succ, List.getElem_cons_zero, List.setIfInBounds_toArray, List.set_cons_zero, List.set_cons_succ])
      refine wpAnyH_take (i := 4) (v := ?v1026) rfl (by kernel_rfl) (by kernel_rfl) (by kernel_rfl) (fun _ _ _ h => h) (Or.inl ⟨by kernel_rfl, ?h1026⟩) (by assumption) ?r1026
      case h1026 => (intro w hSw; (try dsimp only at hSw); go_simp <;> (with_reducible rfl))
      (try simp only [Act.put, List.getElem_toArray, List.getElem_cons_succ, List.getElem_cons_zero, List.setIfInBounds_toArray, List.set_cons_zero, List.set_cons_succ])
      refine wpAnyH_take (i := 5) (v := ?v1027) rfl (by kernel_rfl) (by kernel_rfl) (by kernel_rfl) (fun _ _ _ h => h) (Or.inl ⟨by kernel_rfl, ?h1027⟩) (by assumption) ?r1027
      case h1027 => (intro w hSw; (try dsimp only at hSw); go_simp <;> (with_reducible rfl))
      (try simp only [Act.put, List.getElem_toArray, List.getElem_cons_succ, List.getElem_cons_zero, List.setIfInBounds_toArray, List.set_cons_zero, List.set_cons_succ])
      refine wpAnyH_take (i := 6) (v := ?v1028) rfl (by kernel_rfl) (by kernel_rfl) (by kernel_rfl) (fun _ _ _ h => h) (Or.inl ⟨by kernel_rfl, ?h1028⟩) (by assumption) ?r1028
      case h1028 => (intro w hSw; (try dsimp only at hSw); go_simp <;> (with_reducible rfl))
      (try simp only [Act.put, List.getElem_toArray, List.getElem_cons_succ, List.getElem_cons_zero, List.setIfInBounds_toArray, List.set_cons_zero, List.set_cons_succ])
      refine wpAnyH_take (i := 7) (v := ?v1029) rfl (by kernel_rfl) (by kernel_rfl) (by kernel_rfl) (fun _ _ _ h => h) (Or.inl ⟨by kernel_rfl, ?h1029⟩) (by assumption) ?r1029
      case h1029 => (intro w hSw; (try dsimp only at hSw); go_simp <;> (with_reducible rfl))
      (try simp only [Act.put, List.getElem_toArray, List.getElem_cons_succ, List.getElem_cons_zero, List.setIfInBounds_toArray, List.set_cons_zero, List.set_cons_succ])
      refine wpAnyH_take (i := 8) (v := ?v1030) rfl (by kernel_rfl) (by kernel_rfl) (by kernel_rfl) (fun _ _ _ h => h) (Or.inl ⟨by kernel_rfl, ?h1030⟩) (by assumption) ?r1030
      case h1030 => (intro w hSw; (try dsimp only at hSw); go_simp <;> (with_reducible rfl))
      (try simp only [Act.put, List.getElem_toArray, List.getElem_cons_succ, List.getElem_cons_zero, List.setIfInBounds_toArray, List.set_cons_zero, List.set_cons_succ])
      refine wpAnyH_take (i := 9) (v := ?v1031) rfl (by kernel_rfl) (by kernel_rfl) (by kernel_rfl) (fun _ _ _ h => h) (Or.inl ⟨by kernel_rfl, ?h1031⟩) (by assumption) ?r1031
      case h1031 => (intro w hSw; (try dsimp only at hSw); go_simp <;> (with_reducible rfl))
      (try simp only [Act.put, List.getElem_toArray, List.getElem_cons_succ, List.getElem_cons_zero, List.setIfInBounds_toArray, List.set_cons_zero, List.set_cons_succ])
      refine wpAnyH_take (i := 10) (v := ?v1032) rfl (by kernel_rfl) (by kernel_rfl) (by kernel_rfl) (fun _ _ _ h => h) (Or.inl ⟨by kernel_rfl, ?h1032⟩) (by assumption) ?r1032
      case h1032 => (intro w hSw; (try dsimp only at hSw); go_simp <;> (with_reducible rfl))
      (try simp only [Act.put, List.getElem_toArray, List.getElem_cons_succ, List.getElem_cons_zero, List.setIfInBounds_toArray, List.set_cons_zero, List.set_cons_succ])
      refine wpAnyH_take (i := 11) (v := ?v1033) rfl (by kernel_rfl) (by kernel_rfl) (by kernel_rfl) (fun _ _ _ h => h) (Or.inl ⟨by kernel_rfl, ?h1033⟩) (by assumption) ?r1033
      case h1033 => (intro w hSw; (try dsimp only at hSw); go_simp <;> (with_reducible rfl))
      (try simp only [Act.put, List.getElem_toArray, List.getElem_cons_succ, List.getElem_cons_zero, List.setIfInBounds_toArray, List.set_cons_zero, List.set_cons_succ])
      refine wpAnyH_take (i := 12) (v := ?v1034) rfl (by kernel_rfl) (by kernel_rfl) (by kernel_rfl) (fun _ _ _ h => h) (Or.inl ⟨by kernel_rfl, ?h1034⟩) (by assumption) ?r1034
      case h1034 => (intro w hSw; (try dsimp only at hSw); go_simp <;> (with_reducible rfl))
      (try simp only [Act.put, List.getElem_toArray, List.getElem_cons_succ, List.getElem_cons_zero, List.setIfInBounds_toArray, List.set_cons_zero, List.set_cons_succ])
      refine wpAnyH_take (i := 13) (v := ?v1035) rfl (by kernel_rfl) (by kernel_rfl) (by kernel_rfl) (fun _ _ _ h => h) (Or.inl ⟨by kernel_rfl, ?h1035⟩) (by assumption) ?r1035
      case h1035 => (intro w hSw; (try dsimp only at hSw); go_simp <;> (with_reducible rfl))
      (try simp only [Act.put, List.getElem_toArray, List.getElem_cons_succ, List.getElem_cons_zero, List.setIfInBounds_toArray, List.set_cons_zero, List.set_cons_succ])
      refine wpAnyH_take (i := 14) (v := ?v1036) rfl (by kernel_rfl) (by kernel_rfl) (by kernel_rfl) (fun _ _ _ h => h) (Or.inl ⟨by kernel_rfl, ?h1036⟩) (by assumption) ?r1036
      case h1036 => (intro w hSw; (try dsimp only at hSw); go_simp <;> (with_reducible rfl))
      (try simp only [Act.put, List.getElem_toArray, List.getElem_cons_succ, List.getElem_cons_zero, List.setIfInBounds_toArray, List.set_cons_zero, List.set_cons_succ])
      refine wpAnyH_take (i := 15) (v := ?v1037) rfl (by kernel_rfl) (by kernel_rfl) (by kernel_rfl) (fun _ _ _ h => h) (Or.inl ⟨by kernel_rfl, ?h1037⟩) (by assumption) ?r1037
      case h1037 => (intro w hSw; (try dsimp only at hSw); go_simp <;> (with_reducible rfl))
      (try simp only [Act.put, List.getElem_toArray, List.getElem_cons_succ, List.getElem_cons_zero, List.setIfInBounds_toArray, List.set_cons_zero, List.set_cons_succ])
      refine wpAnyH_take (i := 16) (v := ?v1038) rfl (by kernel_rfl) (by kernel_rfl) (by kernel_rfl) (fun _ _ _ h => h) (Or.inl ⟨by kernel_rfl, ?h1038⟩) (by assumption) ?r1038
      case h1038 => (intro w hSw; (try dsimp only at hSw); go_simp <;> (with_reducible rfl))
      (try simp only [Act.put, List.getElem_toArray, List.getElem_cons_succ, List.getElem_cons_zero, List.setIfInBounds_toArray, List.set_cons_zero, List.set_cons_succ])
      refine wpAnyH_take (i := 17) (v := ?v1039) rfl (by kernel_rfl) (by kernel_rfl) (by kernel_rfl) (fun _ _ _ h => h) (Or.inl ⟨by kernel_rfl, ?h1039⟩) (by assumption) ?r1039
      case h1039 => (intro w hSw; (try dsimp only at hSw); go_simp <;> (with_reducible rfl))
      (try simp only [Act.put, List.getElem_toArray, List.getElem_cons_succ, List.getElem_cons_zero, List.setIfInBounds_toArray, List.set_cons_zero, List.set_cons_succ])
      refine wpAnyH_take (i := 18) (v := ?v1040) rfl (by kernel_rfl) (by kernel_rfl) (by kernel_rfl) (fun _ _ _ h => h) (Or.inl ⟨by kernel_rfl, ?h1040⟩) (by assumption) ?r1040
      case h1040 => (intro w hSw; (try dsimp only at hSw); go_simp <;> (with_reducible rfl))
      (try simp only [Act.put, List.getElem_toArray, List.getElem_cons_succ, List.getElem_cons_zero, List.setIfInBounds_toArray, List.set_cons_zero, List.set_cons_succ])
      refine wpAnyH_take (i := 19) (v := ?v1041) rfl (by kernel_rfl) (by kernel_rfl) (by kernel_rfl) (fun _ _ _ h => h) (Or.inl ⟨by kernel_rfl, ?h1041⟩) (by assumption) ?r1041
      case h1041 => (intro w hSw; (try dsimp only at hSw); go_simp <;> (with_reducible rfl))
      (try simp only [Act.put, List.getElem_toArray, List.getElem_cons_succ, List.getElem_cons_zero, List.setIfInBounds_toArray, List.set_cons_zero, List.set_cons_succ])
      refine wpAnyH_take (i := 20) (v := ?v1042) rfl (by kernel_rfl) (by kernel_rfl) (by kernel_rfl) (fun _ _ _ h => h) (Or.inl ⟨by kernel_rfl, ?h1042⟩) (by assumption) ?r1042
      case h1042 => (intro w hSw; (try dsimp only at hSw); go_simp <;> (with_reducible rfl))
      (try simp only [Act.put, List.getElem_toArray, List.getElem_cons_succ, List.getElem_cons_zero, List.setIfInBounds_toArray, List.set_cons_zero, List.set_cons_succ])
      refine wpAnyH_done (by kernel_rfl) ?_ _
      clear hHeld
      go_wp2_with (go_at_call 14; refine rop.mono ?_; rintro en w8 ⟨rfl, hpost⟩; refine Hid.out ?_)
      refine Lib.hid ?_
      go_wp2
      first | go_end0 | refine bodyPost_ret (results_none rfl _ _ _) rfl ?_
      exact ⟨rfl, hpost⟩

end Go.Proofs.YbulkafceFmt
