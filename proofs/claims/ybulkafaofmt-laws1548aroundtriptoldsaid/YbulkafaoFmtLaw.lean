/-
  LawS1548ARoundTrip, walked.
-/
import Derived.Test.YbulkafaoFmtParse
namespace Go.Proofs.YbulkafaoFmt
open Go.RowKit

theorem Full.slice {w : World} {v : Value} {n : Nat} {xs : List Value} (h : Full w v n xs) : ∃ q c, v = .slice q n c := by
  rcases h with ⟨rfl, rfl, _⟩ | ⟨ad, rfl, _⟩
  · exact ⟨_, _, rfl⟩
  · exact ⟨_, _, rfl⟩

theorem Src.bytes {w : World} {v : Value} {n : Nat} {zs : List Int} (h : Src w v n (bs zs)) : zs.length = n ∧ ∃ p c, v = .slice p n c ∧ Lib.BytesIn w p n zs := by
  rcases h with ⟨rfl, rfl, hz⟩ | ⟨ad, c, rfl, hl, hc⟩
  · have h0 : zs = [] := by simpa [bs] using hz
    subst h0
    exact ⟨rfl, _, _, rfl, Lib.BytesIn.nil _ _ _⟩
  · rw [bs_length] at hl
    refine ⟨hl, _, _, rfl, Lib.BytesIn.of_cells fun i hi => ?_⟩
    refine hc i _ ?_
    have hi' : i < zs.length := by omega
    simp [bs, List.getD, hi']

theorem bytes_of {w : World} {p : Option Addr} {n c : Nat} {zs : List Int} (h : Src w (.slice p n c) n (bs zs)) : zs.length = n ∧ Lib.BytesIn w p n zs := by
  obtain ⟨h1, q, d, e, h2⟩ := h.bytes
  cases e
  exact ⟨h1, h2⟩

theorem own_head {w : World} {B n : Nat} {v : Value} {xs : List Value} (h : w.ownsRow B 5 1 v (n + 1) xs) : ∃ g c, v = .slice (some ⟨g, 0, none⟩) (n + 1) c ∧ n + 1 ≤ c ∧ ∀ j u, xs[j]? = some u → w.cell? ⟨g, j, none⟩ = some u := by
  rcases h.2 with ⟨_, hn⟩ | ⟨g, cap, cur, rfl, hbg, hg, hnc, hcm, hcs, htake⟩
  · omega
  · refine ⟨g, cap, rfl, hnc, fun j u hj => ?_⟩
    have := h.cells (g := g) rfl j u hj
    rw [add_plain, Nat.zero_add] at this
    exact this

set_option maxHeartbeats 4000000 in
set_option maxRecDepth 100000 in
theorem walk_none (ver : Nat) (a3 : Option Addr) (len3 cap3 : Nat) (w : World) (h3 : len3 ≤ 1024) :
    Calls Ybaf.prog 3 #[.bool false, .int .u64 ver, .slice a3 len3 cap3] w fun e w' => e = .returned (.bool true) ∧ Below w.heap.size w w' := by
  have d3 : decide ((1024 : Int) < (len3 : Int)) = false := by simp; omega
  have d4 : decide ((65536 : Int) < (len3 : Int)) = false := by simp; omega
  have rc := rec_none (.slice none 0 0) 0 [] w (by omega) (.inl ⟨rfl, rfl, rfl⟩)
  go_enter Ybaf.func3, Ybaf.ntmps3
  go_wp2_with (go_at_call 5; refine rc.mono ?_; rintro e w1 ⟨got, rfl, hG, hb⟩; refine Hid.out ?_)
  refine Lib.hid ?_
  obtain ⟨g, c, rfl, _, hcell⟩ := own_head hG
  have hp := parse_none g c w1 (hcell 0 _ rfl)
  clear hG rc hcell
  go_wp2_with (go_at_call 6; refine hp.mono ?_; rintro e w2 ⟨rfl, rfl⟩; refine Hid.out ?_)
  refine Lib.hid ?_
  go_wp2
  go_ret
  exact ⟨rfl, hb⟩

set_option maxHeartbeats 4000000 in
set_option maxRecDepth 100000 in
theorem walk_held (ver : Nat) (a3 : Option Addr) (len3 cap3 : Nat) (ys : List Int) (w : World) (h3 : len3 ≤ 1024) (hver : ver < 18446744073709551616)
    (T0 : Src w (.slice a3 len3 cap3) len3 (bs ys)) :
    Calls Ybaf.prog 3 #[.bool true, .int .u64 ver, .slice a3 len3 cap3] w fun e w' => e = .returned (.bool true) ∧ Below w.heap.size w w' := by
  have d3 : decide ((1024 : Int) < (len3 : Int)) = false := by simp; omega
  have d4 : decide ((65536 : Int) < (len3 : Int)) = false := by simp; omega
  have cl3 := clone_any (.slice a3 len3 cap3) len3 ys w h3 T0
  go_enter Ybaf.func3, Ybaf.ntmps3
  go_wp2_with (go_at_call 4; refine cl3.mono ?_; rintro e w2 ⟨q, rfl, hF2, hb2⟩; obtain ⟨qa, qc, rfl⟩ := hF2.slice; refine Hid.out ?_)
  refine Lib.hid ?_
  have T2 := T0.kept hb2 (Nat.le_refl _)
  obtain ⟨wb, HWB⟩ : ∃ wb, Hid (wb = w2.alloc (.cells #[.int .u64 ver, .slice qa len3 qc, .map none, .bool false, .bool false] 28)) := ⟨_, rfl⟩
  have hbb : Below w2.heap.size w2 wb := by rw [HWB.out]; exact (Below.refl _ _).alloc (Nat.le_refl _) _
  have c0 : wb.cell? ⟨w2.heap.size, 0, none⟩ = some (.int .u64 ver) := by rw [HWB.out]; simp
  have c1 : wb.cell? ⟨w2.heap.size, 1, none⟩ = some (.slice qa len3 qc) := by rw [HWB.out]; simp
  have rc := rec_held (.slice none 0 0) 0 [] w2.heap.size ver (.slice qa len3 qc) len3 ys wb (by omega) h3 hver (.inl ⟨rfl, rfl, rfl⟩) c0 c1 (hF2.src.kept hbb (Nat.le_refl _))
  have T3 := T2.kept hbb (Nat.le_refl _)
  have b3 : Below w.heap.size w wb := hb2.trans (hbb.mono hb2.size)
  rw [HWB.out] at rc
  clear c0 c1 T2 hF2 hbb hb2 cl3 T0
  go_wp2_with (go_at_call 5; refine rc.mono ?_; rintro e w4 ⟨got, rfl, hG4, hb4⟩; refine Hid.out ?_)
  refine Lib.hid ?_
  rw [← HWB.out] at hG4 hb4
  have T4 := T3.kept hb4 (Nat.le_refl _)
  have b4 : Below w.heap.size w w4 := b3.trans (hb4.mono b3.size)
  have hlen := (bytes_of T4).1
  have hG5 : w4.ownsRow wb.heap.size 5 1 got (8 + len3 + 1) (bs ([1] ++ be ver ++ ys)) := by
    have e : 0 + 1 + 8 + len3 = 8 + len3 + 1 := by omega
    rw [← e]
    simpa using hG4
  obtain ⟨g, c, hgot, hc, hcell⟩ := own_head hG5
  have e9 : 8 + len3 + 1 = 9 + len3 := by omega
  rw [e9] at hgot hc
  subst hgot
  clear rc hG4 hG5 T3 b3 hb4 HWB e9
  have hp : Calls Ybaf.prog 6 #[.slice (some ⟨g, 0, none⟩) (9 + len3) c] w4 fun e w' => ∃ pb q d, e = .returned (.tuple #[.pointer (some ⟨pb, 0, none⟩), .nilIface]) ∧ w'.cell? ⟨pb, 0, none⟩ = some (.int .u64 ver) ∧ w'.cell? ⟨pb, 1, none⟩ = some (.slice q len3 d) ∧ Lib.BytesIn w' q len3 ys ∧ Below w4.heap.size w4 w' := by
    by_cases hc9 : c = 9
    · obtain rfl : len3 = 0 := by omega
      subst hc9
      exact parse_short g ver ys w4 hver hcell
    · exact parse_held g c len3 ver ys w4 h3 hver hc hc9 hlen hcell
  clear hcell hc
  go_wp2_with (go_at_call 6; refine hp.mono ?_; rintro e w5 ⟨pb, q, d, rfl, k0, k1, B1, hb5⟩; refine Hid.out ?_)
  refine Lib.hid ?_
  have T5 := T4.kept hb5 (Nat.le_refl _)
  have B2 := (bytes_of T5).2
  have bq := Any.bytes_Equal_all Ybaf.laysnb115 q a3 len3 d len3 cap3 ys ys w5 hlen hlen B1 B2
  have bfin : Below w.heap.size w w5 := b4.trans (hb5.mono b4.size)
  clear hp T4 T5 B1 B2 hb5 b4
  go_wp2_with (go_at_call 7; refine bq.mono ?_; rintro e w6 ⟨rfl, rfl⟩; refine Hid.out ?_)
  refine Lib.hid ?_
  go_wp2
  go_ret
  exact ⟨by simp, bfin⟩

theorem walk_big (b : Bool) (v : Int) (a3 : Option Addr) (len3 cap3 : Nat) (w : World) (h3 : 1024 < len3) :
    Calls Ybaf.prog 3 #[.bool b, .int .u64 v, .slice a3 len3 cap3] w fun e w' => e = .returned (.bool true) ∧ Below w.heap.size w w' := by
  have d3 : decide ((1024 : Int) < (len3 : Int)) = true := by simp; omega
  go_enter Ybaf.func3, Ybaf.ntmps3
  go_wp2
  go_ret
  exact ⟨rfl, Below.refl _ _⟩

end Go.Proofs.YbulkafaoFmt
