/-
  raise, walked.
-/
import Derived.Test.YbulkafceFmtRaiseR
import Derived.Deep.RegionHeld3
namespace Go.Proofs.YbulkafceFmt
open Go.RowKit

theorem info56 : (Ybaf.prog.info? 56).map (fun i => (i.zero, i.size, i.bytes)) = some (some (.agg #[.int .i64 0, .int .i64 0, .int .i64 0, .int .i64 0, .int .i64 0, .int .i64 0]), 6, 48) := by kernel_rfl

section
variable {B rb sb scap ob ocap oN : Nat} {R : Nat → Value} {S : Nat → En} {sz : Nat} {O : Nat → Option Nat} {j : Nat}

set_option linter.unusedSimpArgs false in
set_option maxHeartbeats 4000000 in
set_option maxRecDepth 100000 in
theorem raise_any {n c k : Nat} (X Y : List Nat) (i W T : Nat) (w : World) (hj : j < 7) (hn : n < 7) (hF : FM w B rb sb scap ob ocap oN R S sz O j) (hSt : St j S sz (X ++ i :: Y) O) (hD : Dist j S (X ++ i :: Y)) (hh : (S i).h < 2 ^ j) (hsz : sz ≤ 100) (hT : TabAt 0 Lib.deBruijn64tab w) (h0 : 0 < B)
    (hW : W ≤ (S i).n) (hn64 : (S i).n ≤ 64) (hf64 : (S i).f ≤ 64) (hTt : (S i).h + T ≤ 2 ^ j) (hfin : Inv n j c k (raised (sgs S X) (S i).sg (sgs S Y) W T)) :
    Calls Ybaf.prog 11 #[.pointer (some ⟨rb, 17, none⟩), .int .i64 (i : Int), .int .i64 (W : Int), .int .i64 (T : Int)] w fun e w' => e = .returned (.tuple #[]) ∧
      (∃ R' sb' scap' S' sz' live' O', FM w' B rb sb' scap' ob ocap oN R' S' sz' O' j ∧ St j S' sz' live' O' ∧ sgs S' live' = raised (sgs S X) (S i).sg (sgs S Y) W T ∧ sz' ≤ sz + 1) ∧ Below B w w' ∧ K44 w w' := by
  have mixed := mixed
  have HF : Hid (FM w B rb sb scap ob ocap oN R S sz O j) := hF
  have hi : i < sz := hSt.ch.lt i (by simp)
  have h64 : (2 : Nat) ^ j ≤ 2 ^ 6 := Nat.pow_le_pow_right (by decide) (by omega)
  obtain ⟨r17, _, r19, _⟩ := hF.roomCell
  have s0 := hF.segCell hi (k := 0) (by omega)
  have s1 := hF.segCell hi (k := 1) (by omega)
  have s2 := hF.segCell hi (k := 2) (by omega)
  have s3 := hF.segCell hi (k := 3) (by omega)
  have s4 := hF.segCell hi (k := 4) (by omega)
  have s5 := hF.segCell hi (k := 5) (by omega)
  simp only [fld, Nat.add_zero] at s0 s1 s2 s3 s4 s5
  have hil : (i : Int) < (sz : Int) := by omega
  have hX0 := hF.six (S i)
  have hba : Below B w (w.alloc (.cells (sixA (S i)) 56)) := (Below.refl _ _).alloc (by have := hF.Bb.1; have := hF.room.lt; omega) _
  have hTa := TabAt.below hT h0 hba
  have hP3 := Part.close hSt hD (show i ∈ X ++ i :: Y by simp)
  have hslI := hSt.slot i (by simp)
  have hOI : (S i).h < 2 ^ j → O (dep j (S i).h) = some i := fun ho => (hSt.op _ dep_le_j i).2 ⟨by simp, ho, rfl⟩
  clear hF
  go_enter Ybaf.func11, Ybaf.ntmps11
  go_upto_region 1 with (fail)
  obtain ⟨wa, HWA⟩ : ∃ wa, Hid (wa = w.alloc (.cells (sixA (S i)) 56)) := ⟨_, rfl⟩
  have e6 : sixA (S i) = #[.int .i64 ((S i).f : Int), .int .i64 ((S i).n : Int), .int .i64 ((S i).h : Int), .int .i64 (S i).p, .int .i64 (S i).x, .int .i64 (S i).sl] := rfl
  rw [← e6, ← HWA.out]
  rw [← HWA.out] at hX0 hba hTa
  clear HWA e6 s0 s1 s2 s3 s4 s5 r17 r19
  obtain ⟨n0, HN0⟩ : ∃ n0, Hid (n0 = w.heap.size) := ⟨_, rfl⟩
  rw [← HN0.out] at hX0 ⊢
  have k1 : wa.cell? ⟨n0, 1, none⟩ = some (.int .i64 ((S i).n : Int)) := hX0.copy (by omega)
  have k2 : wa.cell? ⟨n0, 2, none⟩ = some (.int .i64 ((S i).h : Int)) := hX0.copy (by omega)
  obtain ⟨_, _, a19, _⟩ := hX0.fm.roomCell
  obtain ⟨fI, HfI⟩ : ∃ v, Hid (v = (S i).f) := ⟨_, rfl⟩
  obtain ⟨nI, HnI⟩ : ∃ v, Hid (v = (S i).n) := ⟨_, rfl⟩
  obtain ⟨hI, HhI⟩ : ∃ v, Hid (v = (S i).h) := ⟨_, rfl⟩
  obtain ⟨tp, Htp⟩ : ∃ v, Hid (v = (2 : Nat) ^ j) := ⟨_, rfl⟩
  have c1 : ¬ ((nI : Int) < (W : Int)) := by rw [HnI.out]; omega
  have c2 : ¬ ((tp : Int) < (hI : Int) + (T : Int)) := by rw [HhI.out, Htp.out]; omega
  have c3 : IntKind.i64.wrap ((hI : Int) + (T : Int)) = (hI : Int) + (T : Int) := by rw [HhI.out]; simp [IntKind.wrap, IntKind.signed, IntKind.bits]; omega
  rw [← HnI.out] at k1
  rw [← HhI.out] at k2
  rw [← Htp.out] at a19
  have cls := fun m => close_x i (wa.drewN m) hj (hX0.drewN m) hi hslI hOI (TabAt.below hTa h0 (((Quiet.refl wa).drewN m).below B))
  have hbm : ∀ m, Below B wa (wa.drewN m) := fun m => ((Quiet.refl wa).drewN m).below B
  have hin : i ∈ X ++ i :: Y := by simp
  go_quiet (fail)
  go_wp2_with (go_at_call 16; refine (cls _).mono ?_; rintro en w3 ⟨rfl, ⟨R3, hX3⟩, hb3⟩; refine Hid.out ?_)
  refine Lib.hid ?_
  have hbB := (hba.trans (hbm _)).trans hb3
  clear hb3 cls hbm hX0 k1 k2 a19 c1 c2 c3 hslI hOI hba
  have hT3 := TabAt.below hT h0 hbB
  rw [if_pos hh] at hX3 hP3
  generalize hS3 : upd S i { S i with sl := -1 } = S3 at hX3 hP3
  generalize hO3 : upd O (dep j (S i).h) none = O3 at hX3 hP3
  obtain ⟨xI, HxI⟩ : ∃ v, Hid (v = (S i).x) := ⟨_, rfl⟩
  have k0 : w3.cell? ⟨n0, 0, none⟩ = some (.int .i64 (fI : Int)) := by rw [HfI.out]; exact hX3.copy (by omega)
  have k1 : w3.cell? ⟨n0, 1, none⟩ = some (.int .i64 (nI : Int)) := by rw [HnI.out]; exact hX3.copy (by omega)
  have k2 : w3.cell? ⟨n0, 2, none⟩ = some (.int .i64 (hI : Int)) := by rw [HhI.out]; exact hX3.copy (by omega)
  have k4 : w3.cell? ⟨n0, 4, none⟩ = some (.int .i64 xI) := by rw [HxI.out]; exact hX3.copy (by omega)
  have r17 := hX3.fm.roomCell.1
  go_upto_if 58 with (fail)
  go_cut [9] (fun _ wd => PhB w wd B rb ob ocap oN S X Y i W sz j n0 (S i))
  case first =>
    by_cases hlt : W < (S i).n
    · have c1 : (W : Int) < (nI : Int) := by rw [HnI.out]; omega
      obtain ⟨i56, hi56, hz56, hs56, hb56⟩ := info_parts info56
      have hown := hX3.fm.own
      have c2 : IntKind.i64.wrap ((fI : Int) + (W : Int)) = (fI : Int) + (W : Int) := by rw [HfI.out]; simp [IntKind.wrap, IntKind.signed, IntKind.bits]; omega
      have c3 : IntKind.i64.wrap ((nI : Int) - (W : Int)) = (nI : Int) - (W : Int) := by rw [HnI.out]; simp [IntKind.wrap, IntKind.signed, IntKind.bits]; omega
      obtain ⟨o4, HO4⟩ : ∃ o4 : Obj, Hid (o4 = .cells #[.int .i64 ((fI : Int) + (W : Int)), .int .i64 ((nI : Int) - (W : Int)), .int .i64 (hI : Int), .int .i64 (i : Int), .int .i64 xI, .int .i64 0] 56) := ⟨_, rfl⟩
      have r17a : ∀ o, (w3.alloc o).cell? ⟨rb, 17, none⟩ = some (.slice (some ⟨sb, 0, none⟩) sz scap) := fun o => (hX3.fm.alloc o).roomCell.1
      have hFW := (hX3.alloc o4).drew
      have hown1 : ((w3.alloc o4).drew).ownsRow B 56 6 (.slice (some ⟨sb, 0, none⟩) sz scap) sz (flat S3 sz) := hFW.fm.own
      have hnews : ∀ q u, (six ⟨fI + W, nI - W, hI, i, xI, 0⟩)[q]? = some u → ((w3.alloc o4).drew).cell? (Addr.add ⟨w3.heap.size, 0, none⟩ q) = some u := by
        intro q u hq
        rw [HO4.out]
        have hlt' : W ≤ nI := by rw [HnI.out]; omega
        match q, hq with
        | 0, hq => simp [six, fld] at hq; simp [Addr.add, ← hq]
        | 1, hq => simp [six, fld] at hq; simp [Addr.add, ← hq]; omega
        | 2, hq => simp [six, fld] at hq; simp [Addr.add, ← hq]
        | 3, hq => simp [six, fld] at hq; simp [Addr.add, ← hq]
        | 4, hq => simp [six, fld] at hq; simp [Addr.add, ← hq]
        | 5, hq => simp [six, fld] at hq; simp [Addr.add, ← hq]
        | q + 6, hq => simp [six] at hq
      have hm1 : sz + 1 ≤ maxLen := by unfold maxLen; omega
      have hm2 : (sz + 1) * 48 ≤ 140737488355328 := by omega
      have hBW : B ≤ w3.heap.size := by have := hX3.fm.Bb.1; have := hX3.fm.room.lt; omega
      have hm3 : B ≤ ((w3.alloc o4).drew).heap.size := by simp; omega
      have hrbs : rb < ((w3.alloc o4).drew).heap.size := hFW.fm.room.lt
      have hrbn : (some sb : Option Nat) ≠ some rb := fun e => hFW.fm.ne.1 (Option.some.inj e).symm
      have hn0s : n0 < ((w3.alloc o4).drew).heap.size := lt_heap hFW.own
      have hn0n : (some sb : Option Nat) ≠ some n0 := fun e => hFW.ne.2.1 (Option.some.inj e).symm
      have hn1 : ¬ n0 = rb := hFW.ne.1
      have hn2 : ¬ rb = n0 := fun e => hFW.ne.1 e.symm
      have q0 : ((w3.alloc o4).drew).cell? ⟨n0, 0, none⟩ = some (.int .i64 (fI : Int)) := by rw [HfI.out]; exact hFW.copy (by omega)
      have q1 : ((w3.alloc o4).drew).cell? ⟨n0, 1, none⟩ = some (.int .i64 (nI : Int)) := by rw [HnI.out]; exact hFW.copy (by omega)
      have q2 : ((w3.alloc o4).drew).cell? ⟨n0, 2, none⟩ = some (.int .i64 (hI : Int)) := by rw [HhI.out]; exact hFW.copy (by omega)
      have q4 : ((w3.alloc o4).drew).cell? ⟨n0, 4, none⟩ = some (.int .i64 xI) := by rw [HxI.out]; exact hFW.copy (by omega)
      have hcrb := hFW.fm.roomCell.1
      have hfrb := hFW.fm.room.free 17
      have HFW : Hid (FX ((w3.alloc o4).drew) B rb sb scap ob ocap oN R3 S3 sz O3 j n0 (S i) w) := hFW
      have HB2 : Hid (Below B w ((w3.alloc o4).drew)) := (hbB.alloc hBW _).drew
      clear hFW hown
      rw [HO4.out] at hown1 hnews hm3 hrbs hn0s q0 q1 q2 q4 hcrb hfrb HFW HB2
      clear HO4
      go_upto_region 6 with (fail)
      go_cut [] (fun wd => ∃ sb' scap', FX wd B rb sb' scap' ob ocap oN R3 (upd S3 sz ⟨fI + W, nI - W, hI, i, xI, 0⟩) (sz + 1) O3 j n0 (S i) w ∧ Below B w wd)
      case first =>
        refine wp_region_held_drew (S := (fun w' => w'.cell? ⟨n0, 0, none⟩ = some (.int .i64 (fI : Int)) ∧ w'.cell? ⟨n0, 1, none⟩ = some (.int .i64 (nI : Int)) ∧ w'.cell? ⟨n0, 2, none⟩ = some (.int .i64 (hI : Int)) ∧ w'.cell? ⟨n0, 4, none⟩ = some (.int .i64 xI))) (by kernel_rfl) ?_ (fun hHeld => ?_)
        · exact ⟨k0, k1, k2, k4⟩
        refine wpAnyH_take (i := 0) (v := ?v1) rfl (by kernel_rfl) (by kernel_rfl) (by kernel_rfl) (fun _ _ _ h => h) (Or.inl ⟨by rfl, ?h1⟩) (by assumption) ?r1
        case h1 => (intro w hSw; (try dsimp only at hSw); go_simp <;> (with_reducible rfl))
        (try simp only [Act.put, List.getElem_toArray, List.getElem_cons_succ, List.getElem_cons_zero, List.setIfInBounds_toArray, List.set_cons_zero, List.set_cons_succ])
        refine wpAnyH_take (i := 1) (v := ?v2) rfl (by kernel_rfl) (by kernel_rfl) (by kernel_rfl) (fun _ _ _ h => h) (Or.inl ⟨by rfl, ?h2⟩) (by assumption) ?r2
        case h2 => (intro w hSw; (try dsimp only at hSw); go_simp <;> (with_reducible rfl))
        (try simp only [Act.put, List.getElem_toArray, List.getElem_cons_succ, List.getElem_cons_zero, List.setIfInBounds_toArray, List.set_cons_zero, List.set_cons_succ])
        refine wpAnyH_take (i := 2) (v := ?v3) rfl (by kernel_rfl) (by kernel_rfl) (by kernel_rfl) (fun _ _ _ h => h) (Or.inl ⟨by rfl, ?h3⟩) (by assumption) ?r3
        case h3 => (intro w hSw; (try dsimp only at hSw); go_simp <;> (with_reducible rfl))
        (try simp only [Act.put, List.getElem_toArray, List.getElem_cons_succ, List.getElem_cons_zero, List.setIfInBounds_toArray, List.set_cons_zero, List.set_cons_succ])
        refine wpAnyH_take (i := 3) (v := ?v4) rfl (by kernel_rfl) (by kernel_rfl) (by kernel_rfl) (fun _ _ _ h => h) (Or.inl ⟨by rfl, ?h4⟩) (by assumption) ?r4
        case h4 => (intro w hSw; (try dsimp only at hSw); go_simp <;> (with_reducible rfl))
        (try simp only [Act.put, List.getElem_toArray, List.getElem_cons_succ, List.getElem_cons_zero, List.setIfInBounds_toArray, List.set_cons_zero, List.set_cons_succ])
        refine wpAnyH_take (i := 5) (v := ?v5) rfl (by kernel_rfl) (by kernel_rfl) (by kernel_rfl) (fun _ _ _ h => h) (Or.inl ⟨by rfl, ?h5⟩) (by assumption) ?r5
        case h5 => (intro w hSw; (try dsimp only at hSw); go_simp <;> (with_reducible rfl))
        (try simp only [Act.put, List.getElem_toArray, List.getElem_cons_succ, List.getElem_cons_zero, List.setIfInBounds_toArray, List.set_cons_zero, List.set_cons_succ])
        refine wpAnyH_take (i := 6) (v := ?v6) rfl (by kernel_rfl) (by kernel_rfl) (by kernel_rfl) (fun _ _ _ h => h) (Or.inl ⟨by rfl, ?h6⟩) (by assumption) ?r6
        case h6 => (intro w hSw; (try dsimp only at hSw); go_simp <;> (with_reducible rfl))
        (try simp only [Act.put, List.getElem_toArray, List.getElem_cons_succ, List.getElem_cons_zero, List.setIfInBounds_toArray, List.set_cons_zero, List.set_cons_succ])
        refine wpAnyH_take (i := 7) (v := ?v7) rfl (by kernel_rfl) (by kernel_rfl) (by kernel_rfl) (fun _ _ _ h => h) (Or.inl ⟨by rfl, ?h7⟩) (by assumption) ?r7
        case h7 => (intro w hSw; (try dsimp only at hSw); go_simp <;> (with_reducible rfl))
        (try simp only [Act.put, List.getElem_toArray, List.getElem_cons_succ, List.getElem_cons_zero, List.setIfInBounds_toArray, List.set_cons_zero, List.set_cons_succ])
        refine wpAnyH_take (i := 8) (v := ?v8) rfl (by kernel_rfl) (by kernel_rfl) (by kernel_rfl) (fun _ _ _ h => h) (Or.inl ⟨by rfl, ?h8⟩) (by assumption) ?r8
        case h8 => (intro w hSw; (try dsimp only at hSw); go_simp <;> (with_reducible rfl))
        (try simp only [Act.put, List.getElem_toArray, List.getElem_cons_succ, List.getElem_cons_zero, List.setIfInBounds_toArray, List.set_cons_zero, List.set_cons_succ])
        refine wpAnyH_take (i := 9) (v := ?v9) rfl (by kernel_rfl) (by kernel_rfl) (by kernel_rfl) (fun _ _ _ h => h) (Or.inl ⟨by rfl, ?h9⟩) (by assumption) ?r9
        case h9 => (intro w hSw; (try dsimp only at hSw); go_simp <;> (with_reducible rfl))
        (try simp only [Act.put, List.getElem_toArray, List.getElem_cons_succ, List.getElem_cons_zero, List.setIfInBounds_toArray, List.set_cons_zero, List.set_cons_succ])
        refine wpAnyH_take (i := 10) (v := ?v10) rfl (by kernel_rfl) (by kernel_rfl) (by kernel_rfl) (fun _ _ _ h => h) (Or.inl ⟨by rfl, ?h10⟩) (by assumption) ?r10
        case h10 => (intro w hSw; (try dsimp only at hSw); go_simp <;> (with_reducible rfl))
        (try simp only [Act.put, List.getElem_toArray, List.getElem_cons_succ, List.getElem_cons_zero, List.setIfInBounds_toArray, List.set_cons_zero, List.set_cons_succ])
        refine wpAnyH_take (i := 11) (v := ?v11) rfl (by kernel_rfl) (by kernel_rfl) (by kernel_rfl) (fun _ _ _ h => h) (Or.inl ⟨by rfl, ?h11⟩) (by assumption) ?r11
        case h11 => (intro w hSw; (try dsimp only at hSw); go_simp <;> (with_reducible rfl))
        (try simp only [Act.put, List.getElem_toArray, List.getElem_cons_succ, List.getElem_cons_zero, List.setIfInBounds_toArray, List.set_cons_zero, List.set_cons_succ])
        refine wpAnyH_take (i := 12) (v := ?v12) rfl (by kernel_rfl) (by kernel_rfl) (by kernel_rfl) (fun _ _ _ h => h) (Or.inl ⟨by rfl, ?h12⟩) (by assumption) ?r12
        case h12 => (intro w hSw; (try dsimp only at hSw); go_simp <;> (with_reducible rfl))
        (try simp only [Act.put, List.getElem_toArray, List.getElem_cons_succ, List.getElem_cons_zero, List.setIfInBounds_toArray, List.set_cons_zero, List.set_cons_succ])
        refine wpAnyH_take (i := 13) (v := ?v13) rfl (by kernel_rfl) (by kernel_rfl) (by kernel_rfl) (fun _ _ _ h => h) (Or.inl ⟨by rfl, ?h13⟩) (by assumption) ?r13
        case h13 => (intro w hSw; (try dsimp only at hSw); go_simp <;> (with_reducible rfl))
        (try simp only [Act.put, List.getElem_toArray, List.getElem_cons_succ, List.getElem_cons_zero, List.setIfInBounds_toArray, List.set_cons_zero, List.set_cons_succ])
        refine wpAnyH_take (i := 14) (v := ?v14) rfl (by kernel_rfl) (by kernel_rfl) (by kernel_rfl) (fun _ _ _ h => h) (Or.inl ⟨by rfl, ?h14⟩) (by assumption) ?r14
        case h14 => (intro w hSw; (try dsimp only at hSw); go_simp <;> (with_reducible rfl))
        (try simp only [Act.put, List.getElem_toArray, List.getElem_cons_succ, List.getElem_cons_zero, List.setIfInBounds_toArray, List.set_cons_zero, List.set_cons_succ])
        refine wpAnyH_take (i := 15) (v := ?v15) rfl (by kernel_rfl) (by kernel_rfl) (by kernel_rfl) (fun _ _ _ h => h) (Or.inl ⟨by rfl, ?h15⟩) (by assumption) ?r15
        case h15 => (intro w hSw; (try dsimp only at hSw); go_simp <;> (with_reducible rfl))
        (try simp only [Act.put, List.getElem_toArray, List.getElem_cons_succ, List.getElem_cons_zero, List.setIfInBounds_toArray, List.set_cons_zero, List.set_cons_succ])
        refine wpAnyH_take (i := 16) (v := ?v16) rfl (by kernel_rfl) (by kernel_rfl) (by kernel_rfl) (fun _ _ _ h => h) (Or.inl ⟨by rfl, ?h16⟩) (by assumption) ?r16
        case h16 => (intro w hSw; (try dsimp only at hSw); go_simp <;> (with_reducible rfl))
        (try simp only [Act.put, List.getElem_toArray, List.getElem_cons_succ, List.getElem_cons_zero, List.setIfInBounds_toArray, List.set_cons_zero, List.set_cons_succ])
        refine wpAnyH_take (i := 17) (v := ?v17) rfl (by kernel_rfl) (by kernel_rfl) (by kernel_rfl) (fun _ _ _ h => h) (Or.inl ⟨by rfl, ?h17⟩) (by assumption) ?r17
        case h17 => (intro w hSw; (try dsimp only at hSw); go_simp <;> (with_reducible rfl))
        (try simp only [Act.put, List.getElem_toArray, List.getElem_cons_succ, List.getElem_cons_zero, List.setIfInBounds_toArray, List.set_cons_zero, List.set_cons_succ])
        refine wpAnyH_take (i := 18) (v := ?v18) rfl (by kernel_rfl) (by kernel_rfl) (by kernel_rfl) (fun _ _ _ h => h) (Or.inl ⟨by rfl, ?h18⟩) (by assumption) ?r18
        case h18 => (intro w hSw; (try dsimp only at hSw); go_simp <;> (with_reducible rfl))
        (try simp only [Act.put, List.getElem_toArray, List.getElem_cons_succ, List.getElem_cons_zero, List.setIfInBounds_toArray, List.set_cons_zero, List.set_cons_succ])
        refine wpAnyH_ready (rs := [4, 19]) (by kernel_rfl) (by simp) ?_
        refine AllReadyH.cons rfl (fun K hK => ?_) ?more4
        · go_simp
          refine hK.out _ _ ?S (fun hHeld => ?_)
          case S => (try dsimp only); go_keep
          clear hK K
          (try simp only [Act.put, List.getElem_toArray, List.getElem_cons_succ, List.getElem_cons_zero, List.setIfInBounds_toArray, List.set_cons_zero, List.set_cons_succ])
          refine wpAnyH_ready (rs := [19]) (by kernel_rfl) (by simp) ?_
          refine AllReadyH.cons rfl (fun K hK => ?_) ?more
          go_simp
          refine hK.out _ _ ?S (fun hHeld => ?_)
          case S => (try dsimp only); go_keep
          clear hK K
          (try simp only [Act.put, List.getElem_toArray, List.getElem_cons_succ, List.getElem_cons_zero, List.setIfInBounds_toArray, List.set_cons_zero, List.set_cons_succ])
          case more => exact AllReadyH.nil
          refine wpAnyH_ready (rs := [20]) (by kernel_rfl) (by simp) ?_
          refine AllReadyH.cons rfl (fun K hK => ?_) ?more
          refine step_appN _ (by rfl) _ _ _ (by rfl) B 56 i56 _ 6 48 Ybaf.underlying36 hi56 hz56 hs56 hb56 rfl (by omega) (.slice (some ⟨sb, 0, none⟩) sz scap) sz (flat S3 sz) (by rfl) hown1 ⟨w3.heap.size, 0, none⟩ 1 (six ⟨fI + W, nI - W, hI, i, xI, 0⟩) (by rfl) (by rfl) hnews (six_one _) hm1 hm2 hm3 ?_; intro v' w2 hown2 hg2 hf2; have gc := (World.cell?_of_block (a := ⟨rb, 17, none⟩) (hg2.block rb hrbs (fun e => hrbn e.symm))).trans hcrb; have gf := (World.frozen?_of_block (a := ⟨rb, 17, none⟩) (hg2.block rb hrbs (fun e => hrbn e.symm))).trans hfrb; have gn := hg2.block n0 hn0s (fun e => hn0n e.symm); have g0 := (World.cell?_of_block (a := ⟨n0, 0, none⟩) gn).trans q0; have g1 := (World.cell?_of_block (a := ⟨n0, 1, none⟩) gn).trans q1; have g2 := (World.cell?_of_block (a := ⟨n0, 2, none⟩) gn).trans q2; have g4 := (World.cell?_of_block (a := ⟨n0, 4, none⟩) gn).trans q4; clear gn; obtain ⟨sb', scap', hv, hF4, hb4⟩ := HFW.out.appSeg _ hown2 hg2 hf2; rw [hv] at hF4 hb4 ⊢
          refine hK.out _ _ ?S (fun hHeld => ?_)
          case S => (try dsimp only); go_keep
          clear hK K
          (try simp only [Act.put, List.getElem_toArray, List.getElem_cons_succ, List.getElem_cons_zero, List.setIfInBounds_toArray, List.set_cons_zero, List.set_cons_succ])
          case more => exact AllReadyH.nil
          refine wpAnyH_take (i := 21) (v := ?v19) rfl (by kernel_rfl) (by kernel_rfl) (by kernel_rfl) (fun _ _ _ h => h) (Or.inl ⟨by rfl, ?h19⟩) (by assumption) ?r19
          case h19 => (intro w hSw; (try dsimp only at hSw); go_simp <;> (with_reducible rfl))
          (try simp only [Act.put, List.getElem_toArray, List.getElem_cons_succ, List.getElem_cons_zero, List.setIfInBounds_toArray, List.set_cons_zero, List.set_cons_succ])
          refine wpAnyH_take (i := 22) (v := ?v20) rfl (by kernel_rfl) (by kernel_rfl) (by kernel_rfl) (fun _ _ _ h => h) (Or.inl ⟨by rfl, ?h20⟩) (by assumption) ?r20
          case h20 => (intro w hSw; (try dsimp only at hSw); go_simp <;> (with_reducible rfl))
          (try simp only [Act.put, List.getElem_toArray, List.getElem_cons_succ, List.getElem_cons_zero, List.setIfInBounds_toArray, List.set_cons_zero, List.set_cons_succ])
          refine wpAnyH_ready (rs := [23]) (by kernel_rfl) (by simp) ?_
          refine AllReadyH.cons rfl (fun K hK => ?_) ?more
          go_simp
          refine hK.out _ _ ?S (fun hHeld => ?_)
          case S => (try dsimp only); go_keep
          clear hK K
          (try simp only [Act.put, List.getElem_toArray, List.getElem_cons_succ, List.getElem_cons_zero, List.setIfInBounds_toArray, List.set_cons_zero, List.set_cons_succ])
          case more => exact AllReadyH.nil
          refine wpAnyH_done (by kernel_rfl) ?_ _
          go_wp2_with fail
          go_meet
          exact ⟨_, _, hF4, HB2.out.trans hb4⟩
        refine AllReadyH.cons rfl (fun K hK => ?_) AllReadyH.nil
        go_simp
        refine hK.out _ _ ?S (fun hHeld => ?_)
        case S => (try dsimp only); go_keep
        clear hK K
        (try simp only [Act.put, List.getElem_toArray, List.getElem_cons_succ, List.getElem_cons_zero, List.setIfInBounds_toArray, List.set_cons_zero, List.set_cons_succ])
        refine wpAnyH_ready (rs := [4]) (by kernel_rfl) (by simp) ?_
        refine AllReadyH.cons rfl (fun K hK => ?_) ?more
        go_simp
        refine hK.out _ _ ?S (fun hHeld => ?_)
        case S => (try dsimp only); go_keep
        clear hK K
        (try simp only [Act.put, List.getElem_toArray, List.getElem_cons_succ, List.getElem_cons_zero, List.setIfInBounds_toArray, List.set_cons_zero, List.set_cons_succ])
        case more => exact AllReadyH.nil
        refine wpAnyH_ready (rs := [20]) (by kernel_rfl) (by simp) ?_
        refine AllReadyH.cons rfl (fun K hK => ?_) ?more
        refine step_appN _ (by rfl) _ _ _ (by rfl) B 56 i56 _ 6 48 Ybaf.underlying36 hi56 hz56 hs56 hb56 rfl (by omega) (.slice (some ⟨sb, 0, none⟩) sz scap) sz (flat S3 sz) (by rfl) hown1 ⟨w3.heap.size, 0, none⟩ 1 (six ⟨fI + W, nI - W, hI, i, xI, 0⟩) (by rfl) (by rfl) hnews (six_one _) hm1 hm2 hm3 ?_; intro v' w2 hown2 hg2 hf2; have gc := (World.cell?_of_block (a := ⟨rb, 17, none⟩) (hg2.block rb hrbs (fun e => hrbn e.symm))).trans hcrb; have gf := (World.frozen?_of_block (a := ⟨rb, 17, none⟩) (hg2.block rb hrbs (fun e => hrbn e.symm))).trans hfrb; have gn := hg2.block n0 hn0s (fun e => hn0n e.symm); have g0 := (World.cell?_of_block (a := ⟨n0, 0, none⟩) gn).trans q0; have g1 := (World.cell?_of_block (a := ⟨n0, 1, none⟩) gn).trans q1; have g2 := (World.cell?_of_block (a := ⟨n0, 2, none⟩) gn).trans q2; have g4 := (World.cell?_of_block (a := ⟨n0, 4, none⟩) gn).trans q4; clear gn; obtain ⟨sb', scap', hv, hF4, hb4⟩ := HFW.out.appSeg _ hown2 hg2 hf2; rw [hv] at hF4 hb4 ⊢
        refine hK.out _ _ ?S (fun hHeld => ?_)
        case S => (try dsimp only); go_keep
        clear hK K
        (try simp only [Act.put, List.getElem_toArray, List.getElem_cons_succ, List.getElem_cons_zero, List.setIfInBounds_toArray, List.set_cons_zero, List.set_cons_succ])
        case more => exact AllReadyH.nil
        refine wpAnyH_take (i := 21) (v := ?v21) rfl (by kernel_rfl) (by kernel_rfl) (by kernel_rfl) (fun _ _ _ h => h) (Or.inl ⟨by rfl, ?h21⟩) (by assumption) ?r21
        case h21 => (intro w hSw; (try dsimp only at hSw); go_simp <;> (with_reducible rfl))
        (try simp only [Act.put, List.getElem_toArray, List.getElem_cons_succ, List.getElem_cons_zero, List.setIfInBounds_toArray, List.set_cons_zero, List.set_cons_succ])
        refine wpAnyH_take (i := 22) (v := ?v22) rfl (by kernel_rfl) (by kernel_rfl) (by kernel_rfl) (fun _ _ _ h => h) (Or.inl ⟨by rfl, ?h22⟩) (by assumption) ?r22
        case h22 => (intro w hSw; (try dsimp only at hSw); go_simp <;> (with_reducible rfl))
        (try simp only [Act.put, List.getElem_toArray, List.getElem_cons_succ, List.getElem_cons_zero, List.setIfInBounds_toArray, List.set_cons_zero, List.set_cons_succ])
        refine wpAnyH_ready (rs := [23]) (by kernel_rfl) (by simp) ?_
        refine AllReadyH.cons rfl (fun K hK => ?_) ?more
        go_simp
        refine hK.out _ _ ?S (fun hHeld => ?_)
        case S => (try dsimp only); go_keep
        clear hK K
        (try simp only [Act.put, List.getElem_toArray, List.getElem_cons_succ, List.getElem_cons_zero, List.setIfInBounds_toArray, List.set_cons_zero, List.set_cons_succ])
        case more => exact AllReadyH.nil
        refine wpAnyH_done (by kernel_rfl) ?_ _
        go_wp2_with fail
        go_meet
        exact ⟨_, _, hF4, HB2.out.trans hb4⟩
      case rest =>
        obtain ⟨sb4, scap4, hX4, hb4⟩ := hcut
        clear hown1 hnews hm1 hm2 hm3 hrbs hrbn hn0s hn0n q0 q1 q2 q4 hcrb hfrb HFW HB2 r17a c2 c3 hBW k0 k1 k2 k4 r17 hi56 hz56 hs56 hb56 hn1 hn2
        have hxY := hP3.ch.at.2
        have hS3i : S3 i = { S i with sl := -1 } := by rw [← hS3, upd_self]
        have hx' : (S i).x = hdOr Y (-1) := by rw [hS3i] at hxY; exact hxY
        have l4 : wc.cell? ⟨n0, 4, none⟩ = some (.int .i64 xI) := by rw [HxI.out]; exact hX4.copy (by omega)
        have r17 := hX4.fm.roomCell.1
        go_upto_if 89 with (fail)
        go_cut [] (fun wd => FX wd B rb sb4 scap4 ob ocap oN R3 (linkP (upd S3 sz ⟨fI + W, nI - W, hI, i, xI, 0⟩) xI sz) (sz + 1) O3 j n0 (S i) w ∧ Below B w wd)
        case first =>
          rw [← HxI.out] at hx'
          cases Y with
          | nil =>
            simp only [hdOr] at hx'
            subst hx'
            go_wp2_with fail
            go_meet
            exact ⟨hX4, hb4⟩
          | cons y r =>
            simp only [hdOr] at hx'
            have hy : y < sz := hP3.ch.lt y (by simp)
            have hyl : (y : Int) < ((sz + 1 : Nat) : Int) := by omega
            have hyl2 : (y : Int) < (sz : Int) + 1 := by omega
            have s3 := hX4.fm.segCell (i := y) (by omega) (k := 3) (by omega)
            simp only [fld] at s3
            have f3 := hX4.fm.seg.free (y * 6 + 3)
            have hF5 := hX4.drew.setPrev (i := y) (by omega) (sz : Int)
            have hb5 : Below B w (wc.drew.setCell ⟨sb4, y * 6 + 3, none⟩ (.int .i64 (sz : Int))) := hb4.drew.setCell hX4.fm.Bb.2.1 _
            subst hx'
            have hlk : linkP (upd S3 sz ⟨fI + W, nI - W, hI, i, (y : Int), 0⟩) (y : Int) sz = upd (upd S3 sz ⟨fI + W, nI - W, hI, i, (y : Int), 0⟩) y { upd S3 sz ⟨fI + W, nI - W, hI, i, (y : Int), 0⟩ y with p := (sz : Int) } := by
              unfold linkP
              rw [if_pos (by omega)]
              rfl
            have hc0 : (0 : Int) ≤ (y : Int) := by omega
            go_upto_region 8 with (fail)
            go_region
            all_goals
              go_wp2_with fail
              go_meet
              rw [hlk]
              exact ⟨hF5, hb5⟩
        case rest =>
          obtain ⟨hX5, hb5⟩ := hcut
          clear hX4 hb4 l4 r17
          have r17 := hX5.fm.roomCell.1
          have hi5 : i < sz + 1 := by omega
          have hil2 : (i : Int) < (sz : Int) + 1 := by omega
          have t4 := hX5.fm.segCell hi5 (k := 4) (by omega)
          have t1 := hX5.fm.segCell hi5 (k := 1) (by omega)
          simp only [fld] at t4 t1
          have f4 := hX5.fm.seg.free (i * 6 + 4)
          have f1 := hX5.fm.seg.free (i * 6 + 1)
          have hX6 := (hX5.drew.setNext hi5 (sz : Int)).setNodes hi5 W
          have hb6 : Below B w ((wc.drew.setCell ⟨sb4, i * 6 + 4, none⟩ (.int .i64 (sz : Int))).setCell ⟨sb4, i * 6 + 1, none⟩ (.int .i64 (W : Int))) := (hb5.drew.setCell hX5.fm.Bb.2.1 _).setCell hX5.fm.Bb.2.1 _
          have hisz : i ≠ sz := by omega
          have hiY : ¬ (i : Int) = hdOr Y (-1) := by
            intro e
            cases Y with
            | nil => simp only [hdOr] at e; omega
            | cons y r =>
              simp only [hdOr] at e
              exact hP3.ch.ne.2.1 y (by simp) (by omega)
          have hxS3 : (S3 i).x = xI := by rw [hS3i, HxI.out]
          have hsp : upd (upd (linkP (upd S3 sz ⟨fI + W, nI - W, hI, i, xI, 0⟩) xI sz) i { linkP (upd S3 sz ⟨fI + W, nI - W, hI, i, xI, 0⟩) xI sz i with x := (sz : Int) }) i { upd (linkP (upd S3 sz ⟨fI + W, nI - W, hI, i, xI, 0⟩) xI sz) i { linkP (upd S3 sz ⟨fI + W, nI - W, hI, i, xI, 0⟩) xI sz i with x := (sz : Int) } i with n := W } = splitS S3 sz i W := by
            have e1 : linkP (upd S3 sz ⟨fI + W, nI - W, hI, i, xI, 0⟩) xI sz i = S3 i := by
              have : xI = hdOr Y (-1) := by rw [HxI.out]; exact hx'
              rw [this, linkP_at, if_neg hiY, upd_ne _ _ hisz]
            rw [upd_self, upd_upd, e1]
            unfold splitS
            rw [hxS3, hS3i, ← HfI.out, ← HnI.out, ← HhI.out]
          rw [hsp] at hX6
          have hdo : ∀ m, m ∈ X ++ i :: Y → m ≠ i → (S3 m).h < 2 ^ j → dep j (S3 m).h ≠ dep j (S3 i).h := by
            intro m h1 h2 h3
            have e : S3 m = S m := by rw [← hS3, upd_ne _ _ h2]
            rw [e] at h3 ⊢
            rw [hS3i]
            exact hD m h1 i hin h2 h3 hh
          have hh3 : (S3 i).h < 2 ^ j := by rw [hS3i]; exact hh
          obtain ⟨hP6, hg6⟩ := Part.split (W := W) hP3 hh3 hdo
          have hs6 : splitS S3 sz i W sz = ⟨(S3 i).f + W, (S3 i).n - W, (S3 i).h, i, (S3 i).x, 0⟩ := by
            unfold splitS
            rw [upd_ne _ _ (fun e => hisz e.symm), hxS3]
            have hx2 : xI = hdOr Y (-1) := by rw [HxI.out]; exact hx'
            rw [hx2, linkP_at, upd_self]
            refine if_neg ?_
            intro e
            cases Y with
            | nil => simp only [hdOr] at e; omega
            | cons y r =>
              simp only [hdOr] at e
              have := hP3.ch.lt y (by simp)
              omega
          have hO6 : O3 (dep j (S3 i).h) = none := by rw [← hO3, hS3i, upd_self]
          have hT6 : ∀ w', Below B w w' → TabAt 0 Lib.deBruijn64tab w' := fun w' hb => TabAt.below hT h0 hb
          have rop := fun w' (hX' : FX w' B rb sb4 scap4 ob ocap oN R3 (splitS S3 sz i W) (sz + 1) O3 j n0 (S i) w) (hb' : Below B w w') => reopen_x sz w' hj hX' (by omega) (by rw [hs6]; exact Nat.le_of_lt hh3) (fun _ => by rw [hs6]; exact hO6) (hT6 w' hb')
          go_upto_region 9 with (fail)
          go_cut [] (fun wd => FX wd B rb sb4 scap4 ob ocap oN R3 (splitS S3 sz i W) (sz + 1) O3 j n0 (S i) w ∧ Below B w wd)
          case first =>
            go_region
            all_goals
              go_wp2_with fail
              go_meet
              exact ⟨hX6, hb6⟩
          case rest =>
            obtain ⟨hX7, hb7⟩ := hcut
            clear hX6 hb6 hX5 hb5 t1 t4 f1 f4 r17
            go_wp2_with (go_at_call 14; refine (rop _ hX7 hb7).mono ?_; rintro en w8 ⟨rfl, ⟨R8, hX8⟩, hb8⟩; refine Hid.out ?_)
            refine Lib.hid ?_
            go_wp2_with fail
            go_meet
            rw [hs6, if_pos hh3, if_pos hh3] at hX8
            have hup : upd (splitS S3 sz i W) sz ⟨(S3 i).f + W, (S3 i).n - W, (S3 i).h, i, (S3 i).x, 0⟩ = splitS S3 sz i W := by rw [← hs6, upd_same]
            rw [hup] at hX8
            refine ⟨⟨sb4, scap4, R8, _, _, _, sz :: Y, hX8, hP6, ?_, Nat.le_refl _⟩, hb7.trans hb8⟩
            rw [hg6]
            have e1 : sgs S3 X = sgs S X := by rw [← hS3, sgs_slot]
            have e2 : sgs S3 Y = sgs S Y := by rw [← hS3, sgs_slot]
            rw [e1, e2, hS3i]
            unfold restOf
            rw [if_pos (show W < (S i).sg.n from hlt)]
            rfl
    · have c1 : ¬ ((W : Int) < (nI : Int)) := by rw [HnI.out]; omega
      go_wp2_with fail
      go_meet
      refine ⟨⟨sb, scap, R3, S3, sz, O3, Y, hX3, hP3, ?_, by omega⟩, hbB⟩
      have hWn : W = (S i).n := by omega
      rw [← hS3, sgs_close, hWn]
      unfold restOf
      rw [if_neg (show ¬ (S i).n < (S i).sg.n from Nat.lt_irrefl _)]
      rfl
  case rest =>
    clear hX3 hP3 hbB k0 k1 k2 k4 r17 hT3 hSt hD HF hTa
    rename_i hK
    refine hK _ _ ?_
    exact raise_rest X Y i W T n0 w wc hj hn hT h0 hTt hfin hcut _ _ _ _ _ _ _ _ _ _ _ _ _ _ _ _ _ _ _ _ _ _ _ _ _ _ _ _ _ _ _ _ _ _ _ _ _ _ _ _ _ _ _ _ _ _ _ _ _ _ _ _ _ _ _ _ _ _ _ _ _ _ _ _ _ _ _ _ _ _ _ _ _ _ _ _ _ _ _ _ _ _ _ _ _ _ _ _ _ _ _ _ _ _ _ _ _ _ _ _ _ _ _ _ _ _ _ _ _ _ _ _ _ _ _ _ _ _ _ _ _ _ _ _ _ _ _ _ _ _ _ _ _ _ _ _ _ _ _ _ _ _ _ _ _ _ _ _ _ _ _ _ _ _ _ _ _ _ _ _ _ _ _ _ _ _ _ _ _ _ _ _ _ _ _ _ _ _ _ _ _ _ _ _ _ _ _ _ _ _ _ _ _ _ _ _ _ _ _ _
end

end Go.Proofs.YbulkafceFmt
