/-
  close, walked.
-/
import Derived.Test.YbulkafceFmtDep
namespace Go.Proofs.YbulkafceFmt
open Go.RowKit

theorem TabAt.below {B : Nat} {tab : List Nat} {w w' : World} (h : TabAt 0 tab w) (h0 : 0 < B) (hb : Below B w w') : TabAt 0 tab w' :=
  fun j hj => (World.cell?_of_block (hb.block 0 h0)).trans (h j hj)

theorem FM.quiet {w w' : World} {B rb sb scap ob ocap oN : Nat} {R : Nat → Value} {S : Nat → En} {sz : Nat} {O : Nat → Option Nat} {j : Nat} (h : FM w B rb sb scap ob ocap oN R S sz O j) (hq : Quiet w w') : FM w' B rb sb scap ob ocap oN R S sz O j :=
  h.keep fun b _ => by rw [hq.heap]

theorem Quiet.trans {a b c : World} (h : Quiet a b) (k : Quiet b c) : Quiet a c := ⟨k.os.trans h.os, k.tape.trans h.tape, k.output.trans h.output, k.heap.trans h.heap⟩
theorem Quiet.drew {a b : World} (h : Quiet a b) : Quiet a b.drew := ⟨h.os, h.tape, h.output, h.heap⟩
theorem Quiet.drewN {a b : World} (h : Quiet a b) (n : Nat) : Quiet a (b.drewN n) := ⟨h.os, h.tape, h.output, h.heap⟩
theorem Quiet.same {a b : World} {c o : Nat} {v : Value} (h : Quiet a b) (hv : b.cell? ⟨c, o, none⟩ = some v) : Quiet a (b.setCell ⟨c, o, none⟩ v) := by
  rw [setCell_same hv]; exact h

theorem Quiet.cell {a b : World} {d : Addr} {v : Option Value} (h : Quiet a b) (hv : a.cell? d = v) : b.cell? d = v := by
  rw [← hv]; exact World.cell?_of_block (by rw [h.heap])
theorem Quiet.frozen {a b : World} {d : Addr} {v : Bool} (h : Quiet a b) (hv : a.frozen? d = v) : b.frozen? d = v := by
  rw [← hv]; exact World.frozen?_of_block (by rw [h.heap])

/-- Of the blocks only sb and ob may have turned; none is new. -/
structure Frz (sb ob : Nat) (w w' : World) : Prop where
  block : ∀ d, d ≠ sb → d ≠ ob → w'.heap[d]? = w.heap[d]?
  size : w'.heap.size = w.heap.size

theorem Quiet.frz {sb ob : Nat} {w w' : World} (h : Quiet w w') : Frz sb ob w w' := ⟨fun d _ _ => by rw [h.heap], by rw [h.heap]⟩
theorem Frz.setCell {sb ob c o : Nat} {w w' : World} (h : Frz sb ob w w') (hc : c = sb ∨ c = ob) (v : Value) : Frz sb ob w (w'.setCell ⟨c, o, none⟩ v) :=
  ⟨fun d h1 h2 => by rw [Below.heap_setCell _ _ _ _ (by rcases hc with rfl | rfl <;> assumption)]; exact h.block d h1 h2, by simp [World.setCell, h.size]⟩

section
variable {B rb sb scap ob ocap oN : Nat} {R : Nat → Value} {S : Nat → En} {sz : Nat} {O : Nat → Option Nat} {j : Nat}

set_option maxHeartbeats 2000000 in
set_option maxRecDepth 100000 in
theorem close_open (i : Nat) (w : World) (hj : j < 7) (hF : FM w B rb sb scap ob ocap oN R S sz O j) (hi : i < sz) (hsl : (S i).sl = 0) (hh : (S i).h < 2 ^ j) (hO : O (dep j (S i).h) = some i) (hT : TabAt 0 Lib.deBruijn64tab w) :
    Calls Ybaf.prog 16 #[.pointer (some ⟨rb, 17, none⟩), .int .i64 (i : Int)] w fun e w' => e = .returned (.tuple #[]) ∧ (∃ R', FM w' B rb sb scap ob ocap oN R' (upd S i { S i with sl := -1 }) sz (upd O (dep j (S i).h) none) j ∧ ∀ y, (R' y).ownBlock = (R y).ownBlock) ∧ Below B w w' ∧ Frz sb ob w w' := by
  have mixed := mixed
  have HF : Hid (FM w B rb sb scap ob ocap oN R S sz O j) := hF
  obtain ⟨r17, r18, _, r20⟩ := hF.roomCell
  have hx := dep_le_j (j := j) (h := (S i).h)
  obtain ⟨b, c, hR, hb1, hb2⟩ := hF.one hx hO
  have s2 := hF.segCell hi (k := 2) (by omega)
  have s5 := hF.segCell hi (k := 5) (by omega)
  simp only [fld, hsl] at s2 s5
  have ox := hF.opnCell hx
  rw [hR] at ox
  have dp := depth_any rb j (S i).h w hj (Nat.le_of_lt hh) r20 hT
  obtain ⟨x, HX⟩ : ∃ x, Hid (x = dep j (S i).h) := ⟨_, rfl⟩
  rw [← HX.out] at dp ox hx hR hO ⊢
  obtain ⟨h, HH⟩ : ∃ h, Hid (h = (S i).h) := ⟨_, rfl⟩
  rw [← HH.out] at dp s2
  have hil : (i : Int) < (sz : Int) := by omega
  have hxl : (x : Int) < (j : Int) + 1 := by omega
  clear hF hsl hh
  go_enter Ybaf.func16, Ybaf.ntmps16
  go_wp2_with (go_at_call 18; refine dp.mono ?_; rintro e w1 ⟨rfl, hq1⟩; refine Hid.out ?_)
  refine Lib.hid ?_
  have fs5 := (HF.out.seg.free (i * 6 + 5))
  have fox := (HF.out.opn.free x)
  clear dp hT s2
  have c17 := hq1.cell r17
  have c18 := hq1.cell r18
  have cox := hq1.cell ox
  have cb1 := hq1.cell hb1
  go_upto_region 3 with (fail)
  go_cut [6] (fun v wd => v = .int .i64 (i : Int) ∧ Quiet w wd)
  case first =>
    go_quiet (fail)
    all_goals
      go_wp2_with fail
      go_meet
      exact ⟨rfl, hq1.drewN _⟩
  case rest =>
    obtain ⟨rfl, hq3⟩ := hcut
    clear c17 c18 cox cb1
    have c18 := hq3.cell r18
    have cox := hq3.cell ox
    have cb1 := hq3.cell hb1
    have cb2 := hq3.frozen hb2
    have cs5 := hq3.cell s5
    go_upto_region 4 with (fail)
    go_cut [] (fun wd => Quiet w wd)
    case first =>
      go_region
      all_goals
        go_wp2_with fail
        go_meet
        exact hq3.drew.same cb1
    case rest =>
      have hq4 := hcut
      clear hcut c18 cox cb1 cb2 cs5
      have c17 := hq4.cell r17
      have cs5 := hq4.cell s5
      have gs5 := hq4.frozen fs5
      go_upto_region 5 with (fail)
      go_cut [] (fun wd => Quiet w wd)
      case first =>
        go_region
        all_goals
          go_wp2_with fail
          go_meet
          exact hq4.drew.same cs5
      case rest =>
        have hq5 := hcut
        clear hcut c17 cs5 gs5
        have c18 := hq5.cell r18
        have cox := hq5.cell ox
        have gox := hq5.frozen fox
        have hF5 := HF.out.quiet hq5.drew
        have hown : wc.drew.ownsRow B 3 1 (.slice (some ⟨b, 0, none⟩) 0 c) (cnt none) (lst none) := by
          have := hF5.inner x hx
          rw [hR, hO] at this
          rcases this.2 with ⟨hv, _⟩ | ⟨g, cap, cur, hv, h1, h2, h3, h4, h5, _⟩
          · cases hv
          · cases hv
            exact ⟨rfl, .inr ⟨b, c, cur, rfl, h1, h2, Nat.zero_le _, h4, h5, by simp [cnt, lst]⟩⟩
        have hF6 := hF5.setOpn hx (.slice (some ⟨b, 0, none⟩) 0 c) none hown (fun y hy hne b' hb' h' => hF5.apart x y hx hy (fun e => hne e.symm) b' (by rw [hR]; exact hb') h')
        have hb6 : Below B w (wc.drew.setCell ⟨ob, x, none⟩ (.slice (some ⟨b, 0, none⟩) 0 c)) := (hq5.drew.below B).setCell HF.out.Bb.2.2 _
        go_upto_region 6 with (fail)
        go_cut [] (fun wd => FM wd B rb sb scap ob ocap oN (upd R x (.slice (some ⟨b, 0, none⟩) 0 c)) S sz (upd O x none) j ∧ Below B w wd ∧ Frz sb ob w wd)
        case first =>
          go_region
          all_goals
            go_wp2_with fail
            go_meet
            exact ⟨hF6, hb6, hq5.drew.frz.setCell (.inr rfl) _⟩
        case rest =>
          obtain ⟨hF7, hb7, hz7⟩ := hcut
          clear hF6 hb6 hown hF5 c18 cox gox
          have t5 := hF7.segCell hi (k := 5) (by omega)
          have g5 := hF7.seg.free (i * 6 + 5)
          have hF8 := hF7.setSeg hi (k := 5) (by omega) { S i with sl := -1 } (.int .i64 (-1)) rfl (fun k' hk hne => by
            match k', hk, hne with
            | 0, _, _ => rfl
            | 1, _, _ => rfl
            | 2, _, _ => rfl
            | 3, _, _ => rfl
            | 4, _, _ => rfl
            | 5, _, h => exact absurd rfl h
            | n + 6, h, _ => omega)
          have hb8 := hb7.setCell (p := ⟨sb, i * 6 + 5, none⟩) HF.out.Bb.2.1 (.int .i64 (-1))
          have HF8 : Hid (FM (wc.setCell ⟨sb, i * 6 + 5, none⟩ (.int .i64 (-1))) B rb sb scap ob ocap oN (upd R x (.slice (some ⟨b, 0, none⟩) 0 c)) (upd S i { S i with sl := -1 }) sz (upd O x none) j) := hF8
          clear hF7 hF8
          go_wp2
          first | go_end0 | refine bodyPost_ret (results_none rfl _ _ _) rfl ?_
          refine ⟨rfl, ⟨_, HF8.out, fun y => ?_⟩, hb8, hz7.setCell (.inl rfl) _⟩
          by_cases e : y = x
          · subst e; rw [upd_self, hR]; rfl
          · rw [upd_ne _ _ e]

set_option maxRecDepth 100000 in
theorem close_shut (i : Nat) (w : World) (hF : FM w B rb sb scap ob ocap oN R S sz O j) (hi : i < sz) (hsl : (S i).sl = -1) :
    Calls Ybaf.prog 16 #[.pointer (some ⟨rb, 17, none⟩), .int .i64 (i : Int)] w fun e w' => e = .returned (.tuple #[]) ∧ w' = w := by
  obtain ⟨r17, _, _, _⟩ := hF.roomCell
  have s5 := hF.segCell hi (k := 5) (by omega)
  simp only [fld, hsl] at s5
  have hil : (i : Int) < (sz : Int) := by omega
  clear hF
  go_enter Ybaf.func16, Ybaf.ntmps16
  go_wp2
  first | go_end0 | refine bodyPost_ret (results_none rfl _ _ _) rfl ?_
  exact ⟨rfl, rfl⟩
end

end Go.Proofs.YbulkafceFmt
