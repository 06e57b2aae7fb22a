/-
  The build of the law's least numbers and jobs, walked.
-/
import Derived.Test.YbulkafceFmtPre
import Derived.Deep.OwnRows
import Derived.Deep.RegionHeld3
namespace Go.Proofs.YbulkafceFmt
open Go.RowKit

theorem info2 : (Ybaf.prog.info? 2).map (fun i => (i.zero, i.size, i.bytes)) = some (some (.int .i64 0), 1, 8) := by kernel_rfl
theorem info3b : (Ybaf.prog.info? 3).map (fun i => (i.zero, i.size, i.bytes)) = some (some (.int .i64 0), 1, 8) := by kernel_rfl

/-- The jobs up to i lie in order, but for the one at k that is on its way down. -/
structure Ins (M a : Nat → Nat) (J i k : Nat) : Prop where
  le : k ≤ i
  rng : ∀ q, q < J → a q < J
  srt : ∀ q, q + 1 ≤ i → q + 1 ≠ k → M (a (q + 1)) ≤ M (a q)
  gap : 0 < k → k + 1 ≤ i → M (a (k + 1)) ≤ M (a (k - 1))

def swp (a : Nat → Nat) (k : Nat) : Nat → Nat := upd (upd a k (a (k - 1))) (k - 1) (a k)

theorem swp_k {a : Nat → Nat} {k : Nat} (hk : 0 < k) : swp a k k = a (k - 1) := by
  unfold swp
  rw [upd_ne _ _ (by omega), upd_self]
theorem swp_p {a : Nat → Nat} {k : Nat} : swp a k (k - 1) = a k := by unfold swp; rw [upd_self]
theorem swp_o {a : Nat → Nat} {k q : Nat} (h1 : q ≠ k) (h2 : q ≠ k - 1) : swp a k q = a q := by unfold swp; rw [upd_ne _ _ h2, upd_ne _ _ h1]

theorem Ins.swap {M a : Nat → Nat} {J i k : Nat} (h : Ins M a J i k) (hk : 0 < k) (hkJ : k < J) (hlt : M (a (k - 1)) < M (a k)) : Ins M (swp a k) J i (k - 1) := by
  refine ⟨by have := h.le; omega, fun q hq => ?_, fun q h1 h2 => ?_, fun h1 h2 => ?_⟩
  · by_cases e1 : q = k
    · subst e1; rw [swp_k hk]; exact h.rng _ (by omega)
    · by_cases e2 : q = k - 1
      · subst e2; rw [swp_p]; exact h.rng _ (by omega)
      · rw [swp_o e1 e2]; exact h.rng _ hq
  · by_cases e1 : q + 1 = k
    · obtain rfl : q = k - 1 := by omega
      rw [e1, swp_k hk, swp_p]
      omega
    · by_cases e2 : q = k
      · subst e2
        rw [swp_k hk, swp_o (by omega) (by omega)]
        exact h.gap hk h1
      · rw [swp_o (q := q + 1) (by omega) (by omega), swp_o (q := q) e2 (by omega)]
        exact h.srt q h1 e1
  · rw [show k - 1 + 1 = k by omega, swp_k hk, swp_o (by omega) (by omega)]
    have := h.srt (k - 1 - 1) (by have := h.le; omega) (by omega)
    rw [show k - 1 - 1 + 1 = k - 1 by omega] at this
    exact this

theorem Ins.done {M a : Nat → Nat} {J i k : Nat} (h : Ins M a J i k) (hx : k = 0 ∨ M (a k) ≤ M (a (k - 1))) : ∀ q, q + 1 ≤ i → M (a (q + 1)) ≤ M (a q) := by
  intro q hq
  by_cases e : q + 1 = k
  · rcases hx with hx | hx
    · omega
    · obtain rfl : q = k - 1 := by omega
      rw [e]; exact hx
  · exact h.srt q hq e

theorem Ins.next {M a : Nat → Nat} {J i : Nat} (hr : ∀ q, q < J → a q < J) (hs : ∀ q, q + 1 ≤ i → M (a (q + 1)) ≤ M (a q)) : Ins M a J (i + 1) (i + 1) :=
  ⟨Nat.le_refl _, hr, fun q h1 h2 => hs q (by omega), fun h1 h2 => by omega⟩

/-- The i-th least number. -/
def minF (n rl : Nat) (r : Nat → Nat) (k : Nat) : Nat := 1 + (if rl = 0 then 0 else r (k % rl)) % 2 ^ n

theorem made_at (z : Value) (n k : Nat) (h : k < n) : (madeCells #[z] n)[k]? = some z := by
  simp [madeCells, h, Nat.mod_one]

theorem tmod_nat (a b : Nat) : Int.tmod (a : Int) (b : Int) = ((a % b : Nat) : Int) := by
  rw [Int.tmod_eq_emod_of_nonneg (Int.natCast_nonneg _), Int.natCast_emod]

/-- The row of least numbers, k of them laid. -/
structure One (w wr : World) (J n rl : Nat) (r : Nat → Nat) (k : Nat) : Prop where
  m : Rw wr w.heap.size 2 J (fun q => q < J) (fun q => .int .i64 (if q < k then (minF n rl r q : Int) else 0))
  bel : Below w.heap.size w wr
  size : wr.heap.size = w.heap.size + 1

/-- The two rows that build makes. -/
structure Two (w wr : World) (J : Nat) (F G : Nat → Value) : Prop where
  m : Rw wr w.heap.size 2 J (fun k => k < J) F
  j : Rw wr (w.heap.size + 1) 3 J (fun k => k < J) G
  bel : Below w.heap.size w wr

theorem Two.quiet {w wr wr' : World} {J : Nat} {F G : Nat → Value} (h : Two w wr J F G) (hq : Quiet wr wr') : Two w wr' J F G :=
  ⟨h.m.keep (by rw [hq.heap]), h.j.keep (by rw [hq.heap]), h.bel.trans (hq.below _)⟩

theorem Two.set {w wr : World} {J : Nat} {F : Nat → Value} {a : Nat → Nat} (h : Two w wr J F (fun k => .int .i64 (a k : Nat))) {l : Nat} (hl : l < J) (z : Nat) :
    Two w (wr.setCell ⟨w.heap.size + 1, l, none⟩ (.int .i64 (z : Int))) J F (fun k => .int .i64 (upd a l z k : Nat)) :=
  ⟨h.m.setOther (by omega) _, (h.j.set (l := l) hl _).congr fun k hk => by
    by_cases e : k = l
    · subst e; rw [upd_self, upd_self]
    · rw [upd_ne _ _ e, upd_ne _ _ e], h.bel.setCell (by simp) _⟩

set_option linter.unusedSimpArgs false in
set_option maxHeartbeats 8000000 in
set_option maxRecDepth 100000 in
theorem build_any (p q : Int) (n j : Nat) (rb : Option Addr) (rl rc : Nat) (r : Nat → Nat) (w : World) (hp : p % 7 = (n : Int)) (hq : q % 7 = (j : Int)) (hn : n < 7) (hj : j < 7) (hp0 : 0 ≤ p ∧ p ≤ 255) (hq0 : 0 ≤ q ∧ q ≤ 255)
    (hrl : rl ≤ 9223372036854775807) (hr : ∀ k, k < rl → ∃ b o, rb = some ⟨b, o, none⟩ ∧ w.cell? ⟨b, o + k, none⟩ = some (.int .u16 (r k : Int)) ∧ r k ≤ 65535) :
    Calls Ybaf.prog 5 #[.int .u8 p, .int .u8 q, .slice rb rl rc] w fun e w' => ∃ a : Nat → Nat, e = .returned (.tuple #[.int .i64 ((2 ^ n : Nat) : Int), .slice (some ⟨w.heap.size, 0, none⟩) (2 ^ j) (2 ^ j), .slice (some ⟨w.heap.size + 1, 0, none⟩) (2 ^ j) (2 ^ j)]) ∧
      Two w w' (2 ^ j) (fun k => .int .i64 (minF n rl r k : Int)) (fun k => .int .i64 (a k : Nat)) ∧ (∀ k, k < 2 ^ j → a k < 2 ^ j) ∧ ∀ k, k + 1 < 2 ^ j → minF n rl r (a (k + 1)) ≤ minF n rl r (a k) := by
  have mixed := mixed
  have h64 : (2 : Nat) ^ j ≤ 2 ^ 6 := Nat.pow_le_pow_right (by decide) (by omega)
  have hn64 : (2 : Nat) ^ n ≤ 2 ^ 6 := Nat.pow_le_pow_right (by decide) (by omega)
  obtain ⟨tj, HTJ⟩ : ∃ v : Nat, Hid (v = 2 ^ j) := ⟨_, rfl⟩
  obtain ⟨tn, HTN⟩ : ∃ v : Nat, Hid (v = 2 ^ n) := ⟨_, rfl⟩
  rw [← HTN.out, ← HTJ.out]
  go_enter Ybaf.func5, Ybaf.ntmps5
  go_upto_region 3 with (fail)
  clear hp hq
  have e1 : wrap64 ((2 : Int) ^ n) = (tn : Int) := by
    have := shl_nat (c := n) (by omega)
    rw [show min n 64 = n by omega] at this
    rw [this, HTN.out]
  have e2 : wrap64 ((2 : Int) ^ j) = (tj : Int) := by
    have := shl_nat (c := j) (by omega)
    rw [show min j 64 = j by omega] at this
    rw [this, HTJ.out]
  rw [e1, e2]
  have htj : tj ≤ 64 ∧ 0 < tj := by rw [HTJ.out]; exact ⟨by omega, pow_pos2 _⟩
  have htn : tn ≤ 64 ∧ 0 < tn := by rw [HTN.out]; exact ⟨by omega, pow_pos2 _⟩
  have htn0 : ¬ (tn : Int) = 0 := by omega
  clear e1 e2
  have hmk1 := run_make_row' (P := Ybaf.prog) 23 2 (.int .i64 0) 8 Ybaf.underlying23 info2 rfl .i64 .i64 tj (by omega) (by omega) w
  have hO1 : One w (w.alloc (.cells (madeCells #[.int .i64 0] tj) 2)) tj n rl r 0 := by
    refine ⟨⟨_, heap_alloc_new _ _, by simp [madeCells], fun k hk => ?_⟩, (Below.refl _ _).alloc (Nat.le_refl _) _, by simp⟩
    rw [made_at _ _ _ hk]
    simp
  go_wp2
  go_loopw [12] (fun i wr => ∃ k : Nat, k ≤ tj ∧ i = .int .i64 (k : Int) ∧ One w wr tj n rl r k) (fun i _ => tj - (intOf i).toNat)
  case atStart => exact ⟨0, Nat.zero_le _, rfl, hO1⟩
  case round =>
    clear hO1 hmk1
    obtain ⟨k, hk, rfl, hO⟩ := hrel
    by_cases hkl : k < tj
    · have hkl' : (k : Int) < (tj : Int) := by omega
      have hk1 : IntKind.i64.wrap ((k : Int) + 1) = (k : Int) + 1 := by simp [IntKind.wrap, IntKind.signed, IntKind.bits]; omega
      obtain ⟨vk, HVK⟩ : ∃ v : Nat, Hid (v = if rl = 0 then 0 else r (k % rl)) := ⟨_, rfl⟩
      go_upto_if 34 with (fail)
      go_cut [13] (fun v wd => v = .int .i64 (vk : Int) ∧ wd = wr ∧ vk ≤ 65535)
      case first =>
        by_cases hr0 : rl = 0
        · have hc : ¬ ((0 : Int) < (rl : Int)) := by omega
          have HR0 : Hid (rl = 0) := hr0
          clear hr0
          go_wp2_with fail
          go_meet
          rw [HVK.out, if_pos HR0.out]
          exact ⟨rfl, rfl, by omega⟩
        · have hc : (0 : Int) < (rl : Int) := by omega
          have hc0 : ¬ ((rl : Int) = 0) := by omega
          have hml : k % rl < rl := Nat.mod_lt _ (by omega)
          obtain ⟨b, o, rfl, hcell, hrk⟩ := hr (k % rl) hml
          have hb : b < w.heap.size := World.block_lt_of_cell? w _ hcell
          have hcell' : wr.cell? ⟨b, o + k % rl, none⟩ = some (.int .u16 (r (k % rl) : Int)) := (World.cell?_of_block (hO.bel.block b hb)).trans hcell
          have hvk : vk = r (k % rl) := by rw [HVK.out, if_neg hr0]
          rw [← hvk] at hcell' hrk
          obtain ⟨m, HM⟩ : ∃ v, Hid (v = k % rl) := ⟨_, rfl⟩
          rw [← HM.out] at hcell' hml
          have htm : Int.tmod (k : Int) (rl : Int) = (m : Int) := by rw [HM.out]; exact tmod_nat k rl
          have hml' : (m : Int) < (rl : Int) := by omega
          clear hcell hvk
          go_wp2_with fail
          go_meet
          exact ⟨rfl, rfl, hrk⟩
      case rest =>
        obtain ⟨rfl, hw, hvk⟩ := hcut
        rw [hw]
        clear hw
        obtain ⟨mk, HMK⟩ : ∃ v : Nat, Hid (v = vk % tn) := ⟨_, rfl⟩
        have htm : Int.tmod (vk : Int) (tn : Int) = (mk : Int) := by rw [HMK.out]; exact tmod_nat vk tn
        have hmk64 : mk < tn := by rw [HMK.out]; exact Nat.mod_lt _ htn.2
        have hw1 : IntKind.i64.wrap (1 + (mk : Int)) = 1 + (mk : Int) := by simp [IntKind.wrap, IntKind.signed, IntKind.bits]; omega
        have ck := hO.m.cell (k := k) hkl
        have fk := hO.m.free k
        simp only [Nat.lt_irrefl, if_false] at ck
        have hO2 : One w (wr.setCell ⟨w.heap.size, k, none⟩ (.int .i64 (1 + (mk : Int)))) tj n rl r (k + 1) := by
          refine ⟨(hO.m.set (l := k) hkl _).congr fun q hq => ?_, hO.bel.setCell (Nat.le_refl _) _, by simp [World.setCell, hO.size]⟩
          by_cases e : q = k
          · subst e
            rw [upd_self, if_pos (by omega)]
            have : minF n rl r q = 1 + mk := by unfold minF; rw [← HVK.out, ← HTN.out, HMK.out]
            rw [this, Int.natCast_add]
            rfl
          · rw [upd_ne _ _ e]
            by_cases h1 : q < k
            · rw [if_pos h1, if_pos (by omega)]
            · rw [if_neg h1, if_neg (by omega)]
        clear hO
        go_wp2
        go_roundw
        case rel => exact ⟨k + 1, by omega, by go_num, hO2⟩
        case measure => simp [intOf]; omega
    · have hke : ¬ ((k : Int) < (tj : Int)) := by omega
      obtain rfl : k = tj := by omega
      have hM1 := hO.m.congr (F' := fun q => .int .i64 (minF n rl r q : Int)) fun q hq => by rw [if_pos hq]
      have hbl := hO.bel
      have hsz := hO.size
      clear hO hr
      have hmk2 := run_make_row' (P := Ybaf.prog) 24 3 (.int .i64 0) 8 Ybaf.underlying24 info3b rfl .i64 .i64 k (by omega) (by omega) wr
      rw [hsz] at hmk2
      have hT0 : Two w (wr.alloc (.cells (madeCells #[.int .i64 0] k) 3)) k (fun q => .int .i64 (minF n rl r q : Int)) (fun q => .int .i64 (if q < 0 then (q : Int) else 0)) := by
        refine ⟨hM1.alloc _, ⟨_, by rw [← hsz]; exact heap_alloc_new _ _, by simp [madeCells], fun q hq => ?_⟩, hbl.alloc (by omega) _⟩
        rw [made_at _ _ _ hq]
        simp
      go_wp2
      go_loopw [15] (fun i wr2 => ∃ x : Nat, x ≤ k ∧ i = .int .i64 (x : Int) ∧ Two w wr2 k (fun q => .int .i64 (minF n rl r q : Int)) (fun q => .int .i64 (if q < x then (q : Int) else 0))) (fun i _ => k - (intOf i).toNat)
      case atStart => exact ⟨0, Nat.zero_le _, rfl, hT0⟩
      case round =>
        clear hT0 hmk2 hM1 hbl hsz
        obtain ⟨x, hx, rfl, hT⟩ := hrel
        by_cases hxl : x < k
        · have hxl' : (x : Int) < (k : Int) := by omega
          have hx1 : IntKind.i64.wrap ((x : Int) + 1) = (x : Int) + 1 := by simp [IntKind.wrap, IntKind.signed, IntKind.bits]; omega
          have cx := hT.j.cell (k := x) hxl
          have fx := hT.j.free x
          simp only [Nat.lt_irrefl, if_false] at cx
          have hT2 : Two w (wr.setCell ⟨w.heap.size + 1, x, none⟩ (.int .i64 (x : Int))) k (fun q => .int .i64 (minF n rl r q : Int)) (fun q => .int .i64 (if q < x + 1 then (q : Int) else 0)) := by
            refine ⟨hT.m.setOther (by omega) _, (hT.j.set (l := x) hxl _).congr fun q hq => ?_, hT.bel.setCell (by simp) _⟩
            by_cases e : q = x
            · subst e
              rw [upd_self, if_pos (by omega)]
            · rw [upd_ne _ _ e]
              by_cases h1 : q < x
              · rw [if_pos h1, if_pos (by omega)]
              · rw [if_neg h1, if_neg (by omega)]
          clear hT
          go_wp2
          go_roundw
          case rel => exact ⟨x + 1, by omega, by go_num, hT2⟩
          case measure => simp [intOf]; omega
        · have hxe : ¬ ((x : Int) < (k : Int)) := by omega
          obtain rfl : x = k := by omega
          have hT3 : Two w wr x (fun q => .int .i64 (minF n rl r q : Int)) (fun q => .int .i64 ((fun q : Nat => q) q : Nat)) := ⟨hT.m, hT.j.congr fun q hq => by rw [if_pos hq], hT.bel⟩
          clear hT
          obtain ⟨M, HM⟩ : ∃ M, Hid (M = minF n rl r) := ⟨_, rfl⟩
          have hTM : Two w wr x (fun q => .int .i64 (M q : Int)) (fun q => .int .i64 ((fun q : Nat => q) q : Nat)) := by rw [HM.out]; exact hT3
          clear hT3
          go_wp2
          go_loopw [16] (fun i wr3 => ∃ (y : Nat) (a : Nat → Nat), 1 ≤ y ∧ y ≤ x ∧ i = .int .i64 (y : Int) ∧ Two w wr3 x (fun q => .int .i64 (M q : Int)) (fun q => .int .i64 (a q : Nat)) ∧ (∀ q, q < x → a q < x) ∧ ∀ q, q + 1 < y → M (a (q + 1)) ≤ M (a q)) (fun i _ => x - (intOf i).toNat)
          case atStart => exact ⟨1, _, Nat.le_refl _, by omega, rfl, hTM, fun q hq => hq, fun q hq => by omega⟩
          case round =>
            clear hTM
            obtain ⟨y, a, hy1, hy, rfl, hT, hrg, hso⟩ := hrel
            by_cases hyl : y < x
            · have hyl' : (y : Int) < (x : Int) := by omega
              have hy2 : IntKind.i64.wrap ((y : Int) + 1) = (y : Int) + 1 := by simp [IntKind.wrap, IntKind.signed, IntKind.bits]; omega
              have hIns : Ins M a x y y := by
                have := Ins.next (M := M) (i := y - 1) hrg (fun q hq => hso q (by omega))
                rw [show y - 1 + 1 = y by omega] at this
                exact this
              go_wp2
              go_loopw [17] (fun i wr4 => ∃ (z : Nat) (a : Nat → Nat), i = .int .i64 (z : Int) ∧ Two w wr4 x (fun q => .int .i64 (M q : Int)) (fun q => .int .i64 (a q : Nat)) ∧ Ins M a x y z) (fun i _ => (intOf i).toNat)
              case atStart => exact ⟨y, a, rfl, hT, hIns⟩
              case round =>
                clear hT hIns hrg hso
                obtain ⟨z, b, rfl, hT, hI⟩ := hrel
                have hzy := hI.le
                rcases Nat.eq_zero_or_pos z with hz0 | hz0
                · have hd : decide ((0 : Int) < (z : Int)) = false := by rw [hz0]; rfl
                  have hd2 : decide (0 < z) = false := by rw [hz0]; rfl
                  have hd3 : ¬ 0 < z := by omega
                  have hdn := hI.done (.inl hz0)
                  have HZ : Hid (z = 0) := hz0
                  clear hz0
                  go_upto_region 20 with (fail)
                  refine wp_region_held_drew (S := (fun _ => True)) (by kernel_rfl) ?_ (fun hHeld => ?_)
                  · exact trivial
                  refine wpAnyH_take (i := 0) (v := ?v1) rfl (by kernel_rfl) (by kernel_rfl) (by kernel_rfl) (fun _ _ _ h => h) (Or.inl ⟨by kernel_rfl, ?h1⟩) (by assumption) ?r1
                  case h1 => (intro w hSw; (try dsimp only at hSw); go_simp <;> (with_reducible rfl))
                  (try simp only [Act.put, List.getElem_toArray, List.getElem_cons_succ, List.getElem_cons_zero, List.setIfInBounds_toArray, List.set_cons_zero, List.set_cons_succ])
                  refine wpAnyH_take (i := 1) (v := ?v2) rfl (by kernel_rfl) (by kernel_rfl) (by kernel_rfl) (fun _ _ _ h => h) (Or.inl ⟨by kernel_rfl, ?h2⟩) (by assumption) ?r2
                  case h2 => (intro w hSw; (try dsimp only at hSw); go_simp <;> (with_reducible rfl))
                  (try simp only [Act.put, List.getElem_toArray, List.getElem_cons_succ, List.getElem_cons_zero, List.setIfInBounds_toArray, List.set_cons_zero, List.set_cons_succ])
                  refine wpAnyH_take (i := 2) (v := ?v3) rfl (by kernel_rfl) (by kernel_rfl) (by kernel_rfl) (fun _ _ _ h => h) (Or.inl ⟨by kernel_rfl, ?h3⟩) (by assumption) ?r3
                  case h3 => (intro w hSw; (try dsimp only at hSw); go_simp <;> (with_reducible rfl))
                  (try simp only [Act.put, List.getElem_toArray, List.getElem_cons_succ, List.getElem_cons_zero, List.setIfInBounds_toArray, List.set_cons_zero, List.set_cons_succ])
                  refine wpAnyH_take (i := 3) (v := undef) rfl (by kernel_rfl) (by kernel_rfl) (by kernel_rfl) (fun _ _ _ h => h) (Or.inr ⟨by kernel_rfl, rfl⟩) (by assumption) ?r4
                  (try simp only [Act.put, List.getElem_toArray, List.getElem_cons_succ, List.getElem_cons_zero, List.setIfInBounds_toArray, List.set_cons_zero, List.set_cons_succ])
                  refine wpAnyH_take (i := 4) (v := undef) rfl (by kernel_rfl) (by kernel_rfl) (by kernel_rfl) (fun _ _ _ h => h) (Or.inr ⟨by kernel_rfl, rfl⟩) (by assumption) ?r5
                  (try simp only [Act.put, List.getElem_toArray, List.getElem_cons_succ, List.getElem_cons_zero, List.setIfInBounds_toArray, List.set_cons_zero, List.set_cons_succ])
                  refine wpAnyH_take (i := 5) (v := undef) rfl (by kernel_rfl) (by kernel_rfl) (by kernel_rfl) (fun _ _ _ h => h) (Or.inr ⟨by kernel_rfl, rfl⟩) (by assumption) ?r6
                  (try simp only [Act.put, List.getElem_toArray, List.getElem_cons_succ, List.getElem_cons_zero, List.setIfInBounds_toArray, List.set_cons_zero, List.set_cons_succ])
                  refine wpAnyH_take (i := 6) (v := undef) rfl (by kernel_rfl) (by kernel_rfl) (by kernel_rfl) (fun _ _ _ h => h) (Or.inr ⟨by kernel_rfl, rfl⟩) (by assumption) ?r7
                  (try simp only [Act.put, List.getElem_toArray, List.getElem_cons_succ, List.getElem_cons_zero, List.setIfInBounds_toArray, List.set_cons_zero, List.set_cons_succ])
                  refine wpAnyH_take (i := 7) (v := undef) rfl (by kernel_rfl) (by kernel_rfl) (by kernel_rfl) (fun _ _ _ h => h) (Or.inr ⟨by kernel_rfl, rfl⟩) (by assumption) ?r8
                  (try simp only [Act.put, List.getElem_toArray, List.getElem_cons_succ, List.getElem_cons_zero, List.setIfInBounds_toArray, List.set_cons_zero, List.set_cons_succ])
                  refine wpAnyH_take (i := 8) (v := undef) rfl (by kernel_rfl) (by kernel_rfl) (by kernel_rfl) (fun _ _ _ h => h) (Or.inr ⟨by kernel_rfl, rfl⟩) (by assumption) ?r9
                  (try simp only [Act.put, List.getElem_toArray, List.getElem_cons_succ, List.getElem_cons_zero, List.setIfInBounds_toArray, List.set_cons_zero, List.set_cons_succ])
                  refine wpAnyH_take (i := 9) (v := undef) rfl (by kernel_rfl) (by kernel_rfl) (by kernel_rfl) (fun _ _ _ h => h) (Or.inr ⟨by kernel_rfl, rfl⟩) (by assumption) ?r10
                  (try simp only [Act.put, List.getElem_toArray, List.getElem_cons_succ, List.getElem_cons_zero, List.setIfInBounds_toArray, List.set_cons_zero, List.set_cons_succ])
                  refine wpAnyH_take (i := 10) (v := undef) rfl (by kernel_rfl) (by kernel_rfl) (by kernel_rfl) (fun _ _ _ h => h) (Or.inr ⟨by kernel_rfl, rfl⟩) (by assumption) ?r11
                  (try simp only [Act.put, List.getElem_toArray, List.getElem_cons_succ, List.getElem_cons_zero, List.setIfInBounds_toArray, List.set_cons_zero, List.set_cons_succ])
                  refine wpAnyH_take (i := 11) (v := undef) rfl (by kernel_rfl) (by kernel_rfl) (by kernel_rfl) (fun _ _ _ h => h) (Or.inr ⟨by kernel_rfl, rfl⟩) (by assumption) ?r12
                  (try simp only [Act.put, List.getElem_toArray, List.getElem_cons_succ, List.getElem_cons_zero, List.setIfInBounds_toArray, List.set_cons_zero, List.set_cons_succ])
                  refine wpAnyH_take (i := 12) (v := undef) rfl (by kernel_rfl) (by kernel_rfl) (by kernel_rfl) (fun _ _ _ h => h) (Or.inr ⟨by kernel_rfl, rfl⟩) (by assumption) ?r13
                  (try simp only [Act.put, List.getElem_toArray, List.getElem_cons_succ, List.getElem_cons_zero, List.setIfInBounds_toArray, List.set_cons_zero, List.set_cons_succ])
                  refine wpAnyH_take (i := 13) (v := undef) rfl (by kernel_rfl) (by kernel_rfl) (by kernel_rfl) (fun _ _ _ h => h) (Or.inr ⟨by kernel_rfl, rfl⟩) (by assumption) ?r14
                  (try simp only [Act.put, List.getElem_toArray, List.getElem_cons_succ, List.getElem_cons_zero, List.setIfInBounds_toArray, List.set_cons_zero, List.set_cons_succ])
                  refine wpAnyH_take (i := 14) (v := undef) rfl (by kernel_rfl) (by kernel_rfl) (by kernel_rfl) (fun _ _ _ h => h) (Or.inr ⟨by kernel_rfl, rfl⟩) (by assumption) ?r15
                  (try simp only [Act.put, List.getElem_toArray, List.getElem_cons_succ, List.getElem_cons_zero, List.setIfInBounds_toArray, List.set_cons_zero, List.set_cons_succ])
                  refine wpAnyH_take (i := 15) (v := undef) rfl (by kernel_rfl) (by kernel_rfl) (by kernel_rfl) (fun _ _ _ h => h) (Or.inr ⟨by kernel_rfl, rfl⟩) (by assumption) ?r16
                  (try simp only [Act.put, List.getElem_toArray, List.getElem_cons_succ, List.getElem_cons_zero, List.setIfInBounds_toArray, List.set_cons_zero, List.set_cons_succ])
                  refine wpAnyH_take (i := 16) (v := undef) rfl (by kernel_rfl) (by kernel_rfl) (by kernel_rfl) (fun _ _ _ h => h) (Or.inr ⟨by kernel_rfl, rfl⟩) (by assumption) ?r17
                  (try simp only [Act.put, List.getElem_toArray, List.getElem_cons_succ, List.getElem_cons_zero, List.setIfInBounds_toArray, List.set_cons_zero, List.set_cons_succ])
                  refine wpAnyH_take (i := 17) (v := undef) rfl (by kernel_rfl) (by kernel_rfl) (by kernel_rfl) (fun _ _ _ h => h) (Or.inr ⟨by kernel_rfl, rfl⟩) (by assumption) ?r18
                  (try simp only [Act.put, List.getElem_toArray, List.getElem_cons_succ, List.getElem_cons_zero, List.setIfInBounds_toArray, List.set_cons_zero, List.set_cons_succ])
                  refine wpAnyH_take (i := 18) (v := undef) rfl (by kernel_rfl) (by kernel_rfl) (by kernel_rfl) (fun _ _ _ h => h) (Or.inr ⟨by kernel_rfl, rfl⟩) (by assumption) ?r19
                  (try simp only [Act.put, List.getElem_toArray, List.getElem_cons_succ, List.getElem_cons_zero, List.setIfInBounds_toArray, List.set_cons_zero, List.set_cons_succ])
                  refine wpAnyH_take (i := 19) (v := ?v20) rfl (by kernel_rfl) (by kernel_rfl) (by kernel_rfl) (fun _ _ _ h => h) (Or.inl ⟨by kernel_rfl, ?h20⟩) (by assumption) ?r20
                  case h20 => (intro w hSw; (try dsimp only at hSw); go_simp <;> (with_reducible rfl))
                  (try simp only [Act.put, List.getElem_toArray, List.getElem_cons_succ, List.getElem_cons_zero, List.setIfInBounds_toArray, List.set_cons_zero, List.set_cons_succ])
                  refine wpAnyH_done (by kernel_rfl) ?_ _
                  clear hHeld
                  have hT' := hT.quiet ((Quiet.refl wr).drew)
                  go_wp2
                  go_roundw
                  case rel => exact ⟨y + 1, b, by omega, by omega, by go_num, hT', hI.rng, fun q hq => hdn q (by omega)⟩
                  case measure => simp [intOf]; omega
                · obtain ⟨u, rfl⟩ : ∃ u, z = u + 1 := ⟨z - 1, by omega⟩
                  have hd : decide ((0 : Int) < (u : Int) + 1) = true := decide_eq_true (by omega)
                  have hux : u + 1 < x := by omega
                  have hu1 : (u : Int) + 1 < (x : Int) := by omega
                  have hu2 : (0 : Int) ≤ (u : Int) + 1 := by omega
                  have hwu2 : IntKind.i64.wrap (u : Int) = (u : Int) := by simp [IntKind.wrap, IntKind.signed, IntKind.bits]; omega
                  have hu0 : (u : Int) < (x : Int) := by omega
                  have hwu : IntKind.i64.wrap ((u : Int) + 1 - 1) = (u : Int) := by simp [IntKind.wrap, IntKind.signed, IntKind.bits]; omega
                  have cj1 := hT.j.cell (k := u + 1) hux
                  have cj0 := hT.j.cell (k := u) (show u < x by omega)
                  have hb1 := hI.rng (u + 1) hux
                  have hb0 := hI.rng u (by omega)
                  have cm1 := hT.m.cell (k := b (u + 1)) hb1
                  have cm0 := hT.m.cell (k := b u) hb0
                  have fj1 := hT.j.free (u + 1)
                  have fj0 := hT.j.free u
                  obtain ⟨b1, HB1⟩ : ∃ v, Hid (v = b (u + 1)) := ⟨_, rfl⟩
                  obtain ⟨b0, HB0⟩ : ∃ v, Hid (v = b u) := ⟨_, rfl⟩
                  rw [← HB1.out] at cj1 cm1 hb1
                  rw [← HB0.out] at cj0 cm0 hb0
                  have hb1' : (b1 : Int) < (x : Int) := by omega
                  have hb0' : (b0 : Int) < (x : Int) := by omega
                  obtain ⟨m1, HM1⟩ : ∃ v, Hid (v = M b1) := ⟨_, rfl⟩
                  obtain ⟨m0, HM0⟩ : ∃ v, Hid (v = M b0) := ⟨_, rfl⟩
                  rw [← HM1.out] at cm1
                  rw [← HM0.out] at cm0
                  by_cases hlt : m0 < m1
                  · have hlt' : (m0 : Int) < (m1 : Int) := by omega
                    have hS := hI.swap (by omega) hux (by rw [show u + 1 - 1 = u by omega, ← HB1.out, ← HB0.out, ← HM1.out, ← HM0.out]; exact hlt)
                    rw [show u + 1 - 1 = u by omega] at hS
                    have hT2 := ((hT.quiet ((Quiet.refl wr).drew)).set hux b0).set (l := u) (by omega) b1
                    have hsw : (fun k => Value.int .i64 ((upd (upd b (u + 1) b0) u b1 k : Nat) : Int)) = fun k => Value.int .i64 ((swp b (u + 1) k : Nat) : Int) := by
                      funext k
                      unfold swp
                      rw [show u + 1 - 1 = u by omega, HB0.out, HB1.out]
                    rw [hsw] at hT2
                    clear hT hI
                    go_upto_region 20 with (fail)
                    refine wp_region_held_drew (S := (fun w' => w'.cell? ⟨w.heap.size + 1, u + 1, none⟩ = some (.int .i64 (b1 : Int)) ∧ w'.cell? ⟨w.heap.size + 1, u, none⟩ = some (.int .i64 (b0 : Int)) ∧ w'.cell? ⟨w.heap.size, b1, none⟩ = some (.int .i64 (m1 : Int)) ∧ w'.cell? ⟨w.heap.size, b0, none⟩ = some (.int .i64 (m0 : Int)))) (by kernel_rfl) ?_ (fun hHeld => ?_)
                    · exact ⟨cj1, cj0, cm1, cm0⟩
                    refine wpAnyH_take (i := 0) (v := ?v21) rfl (by kernel_rfl) (by kernel_rfl) (by kernel_rfl) (fun _ _ _ h => h) (Or.inl ⟨by kernel_rfl, ?h21⟩) (by assumption) ?r21
                    case h21 => (intro w hSw; (try dsimp only at hSw); go_simp <;> (with_reducible rfl))
                    (try simp only [Act.put, List.getElem_toArray, List.getElem_cons_succ, List.getElem_cons_zero, List.setIfInBounds_toArray, List.set_cons_zero, List.set_cons_succ])
                    refine wpAnyH_take (i := 1) (v := ?v22) rfl (by kernel_rfl) (by kernel_rfl) (by kernel_rfl) (fun _ _ _ h => h) (Or.inl ⟨by kernel_rfl, ?h22⟩) (by assumption) ?r22
                    case h22 => (intro w hSw; (try dsimp only at hSw); go_simp <;> (with_reducible rfl))
                    (try simp only [Act.put, List.getElem_toArray, List.getElem_cons_succ, List.getElem_cons_zero, List.setIfInBounds_toArray, List.set_cons_zero, List.set_cons_succ])
                    refine wpAnyH_take (i := 2) (v := ?v23) rfl (by kernel_rfl) (by kernel_rfl) (by kernel_rfl) (fun _ _ _ h => h) (Or.inl ⟨by kernel_rfl, ?h23⟩) (by assumption) ?r23
                    case h23 => (intro w hSw; (try dsimp only at hSw); go_simp <;> (with_reducible rfl))
                    (try simp only [Act.put, List.getElem_toArray, List.getElem_cons_succ, List.getElem_cons_zero, List.setIfInBounds_toArray, List.set_cons_zero, List.set_cons_succ])
                    refine wpAnyH_take (i := 3) (v := ?v24) rfl (by kernel_rfl) (by kernel_rfl) (by kernel_rfl) (fun _ _ _ h => h) (Or.inl ⟨by kernel_rfl, ?h24⟩) (by assumption) ?r24
                    case h24 => (intro w hSw; (try dsimp only at hSw); go_simp <;> (with_reducible rfl))
                    (try simp only [Act.put, List.getElem_toArray, List.getElem_cons_succ, List.getElem_cons_zero, List.setIfInBounds_toArray, List.set_cons_zero, List.set_cons_succ])
                    refine wpAnyH_take (i := 4) (v := ?v25) rfl (by kernel_rfl) (by kernel_rfl) (by kernel_rfl) (fun _ _ _ h => h) (Or.inl ⟨by kernel_rfl, ?h25⟩) (by assumption) ?r25
                    case h25 => (intro w hSw; (try dsimp only at hSw); go_simp <;> (with_reducible rfl))
                    (try simp only [Act.put, List.getElem_toArray, List.getElem_cons_succ, List.getElem_cons_zero, List.setIfInBounds_toArray, List.set_cons_zero, List.set_cons_succ])
                    refine wpAnyH_take (i := 5) (v := ?v26) rfl (by kernel_rfl) (by kernel_rfl) (by kernel_rfl) (fun _ _ _ h => h) (Or.inl ⟨by kernel_rfl, ?h26⟩) (by assumption) ?r26
                    case h26 => (intro w hSw; (try dsimp only at hSw); go_simp <;> (with_reducible rfl))
                    (try simp only [Act.put, List.getElem_toArray, List.getElem_cons_succ, List.getElem_cons_zero, List.setIfInBounds_toArray, List.set_cons_zero, List.set_cons_succ])
                    refine wpAnyH_take (i := 6) (v := ?v27) rfl (by kernel_rfl) (by kernel_rfl) (by kernel_rfl) (fun _ _ _ h => h) (Or.inl ⟨by kernel_rfl, ?h27⟩) (by assumption) ?r27
                    case h27 => (intro w hSw; (try dsimp only at hSw); go_simp <;> (with_reducible rfl))
                    (try simp only [Act.put, List.getElem_toArray, List.getElem_cons_succ, List.getElem_cons_zero, List.setIfInBounds_toArray, List.set_cons_zero, List.set_cons_succ])
                    refine wpAnyH_take (i := 7) (v := ?v28) rfl (by kernel_rfl) (by kernel_rfl) (by kernel_rfl) (fun _ _ _ h => h) (Or.inl ⟨by kernel_rfl, ?h28⟩) (by assumption) ?r28
                    case h28 => (intro w hSw; (try dsimp only at hSw); go_simp <;> (with_reducible rfl))
                    (try simp only [Act.put, List.getElem_toArray, List.getElem_cons_succ, List.getElem_cons_zero, List.setIfInBounds_toArray, List.set_cons_zero, List.set_cons_succ])
                    refine wpAnyH_take (i := 8) (v := ?v29) rfl (by kernel_rfl) (by kernel_rfl) (by kernel_rfl) (fun _ _ _ h => h) (Or.inl ⟨by kernel_rfl, ?h29⟩) (by assumption) ?r29
                    case h29 => (intro w hSw; (try dsimp only at hSw); go_simp <;> (with_reducible rfl))
                    (try simp only [Act.put, List.getElem_toArray, List.getElem_cons_succ, List.getElem_cons_zero, List.setIfInBounds_toArray, List.set_cons_zero, List.set_cons_succ])
                    refine wpAnyH_take (i := 9) (v := ?v30) rfl (by kernel_rfl) (by kernel_rfl) (by kernel_rfl) (fun _ _ _ h => h) (Or.inl ⟨by kernel_rfl, ?h30⟩) (by assumption) ?r30
                    case h30 => (intro w hSw; (try dsimp only at hSw); go_simp <;> (with_reducible rfl))
                    (try simp only [Act.put, List.getElem_toArray, List.getElem_cons_succ, List.getElem_cons_zero, List.setIfInBounds_toArray, List.set_cons_zero, List.set_cons_succ])
                    refine wpAnyH_take (i := 10) (v := ?v31) rfl (by kernel_rfl) (by kernel_rfl) (by kernel_rfl) (fun _ _ _ h => h) (Or.inl ⟨by kernel_rfl, ?h31⟩) (by assumption) ?r31
                    case h31 => (intro w hSw; (try dsimp only at hSw); go_simp <;> (with_reducible rfl))
                    (try simp only [Act.put, List.getElem_toArray, List.getElem_cons_succ, List.getElem_cons_zero, List.setIfInBounds_toArray, List.set_cons_zero, List.set_cons_succ])
                    refine wpAnyH_take (i := 11) (v := ?v32) rfl (by kernel_rfl) (by kernel_rfl) (by kernel_rfl) (fun _ _ _ h => h) (Or.inl ⟨by kernel_rfl, ?h32⟩) (by assumption) ?r32
                    case h32 => (intro w hSw; (try dsimp only at hSw); go_simp <;> (with_reducible rfl))
                    (try simp only [Act.put, List.getElem_toArray, List.getElem_cons_succ, List.getElem_cons_zero, List.setIfInBounds_toArray, List.set_cons_zero, List.set_cons_succ])
                    refine wpAnyH_take (i := 12) (v := ?v33) rfl (by kernel_rfl) (by kernel_rfl) (by kernel_rfl) (fun _ _ _ h => h) (Or.inl ⟨by kernel_rfl, ?h33⟩) (by assumption) ?r33
                    case h33 => (intro w hSw; (try dsimp only at hSw); go_simp <;> (with_reducible rfl))
                    (try simp only [Act.put, List.getElem_toArray, List.getElem_cons_succ, List.getElem_cons_zero, List.setIfInBounds_toArray, List.set_cons_zero, List.set_cons_succ])
                    refine wpAnyH_take (i := 13) (v := ?v34) rfl (by kernel_rfl) (by kernel_rfl) (by kernel_rfl) (fun _ _ _ h => h) (Or.inl ⟨by kernel_rfl, ?h34⟩) (by assumption) ?r34
                    case h34 => (intro w hSw; (try dsimp only at hSw); go_simp <;> (with_reducible rfl))
                    (try simp only [Act.put, List.getElem_toArray, List.getElem_cons_succ, List.getElem_cons_zero, List.setIfInBounds_toArray, List.set_cons_zero, List.set_cons_succ])
                    refine wpAnyH_take (i := 14) (v := ?v35) rfl (by kernel_rfl) (by kernel_rfl) (by kernel_rfl) (fun _ _ _ h => h) (Or.inl ⟨by kernel_rfl, ?h35⟩) (by assumption) ?r35
                    case h35 => (intro w hSw; (try dsimp only at hSw); go_simp <;> (with_reducible rfl))
                    (try simp only [Act.put, List.getElem_toArray, List.getElem_cons_succ, List.getElem_cons_zero, List.setIfInBounds_toArray, List.set_cons_zero, List.set_cons_succ])
                    refine wpAnyH_take (i := 15) (v := ?v36) rfl (by kernel_rfl) (by kernel_rfl) (by kernel_rfl) (fun _ _ _ h => h) (Or.inl ⟨by kernel_rfl, ?h36⟩) (by assumption) ?r36
                    case h36 => (intro w hSw; (try dsimp only at hSw); go_simp <;> (with_reducible rfl))
                    (try simp only [Act.put, List.getElem_toArray, List.getElem_cons_succ, List.getElem_cons_zero, List.setIfInBounds_toArray, List.set_cons_zero, List.set_cons_succ])
                    refine wpAnyH_take (i := 16) (v := ?v37) rfl (by kernel_rfl) (by kernel_rfl) (by kernel_rfl) (fun _ _ _ h => h) (Or.inl ⟨by kernel_rfl, ?h37⟩) (by assumption) ?r37
                    case h37 => (intro w hSw; (try dsimp only at hSw); go_simp <;> (with_reducible rfl))
                    (try simp only [Act.put, List.getElem_toArray, List.getElem_cons_succ, List.getElem_cons_zero, List.setIfInBounds_toArray, List.set_cons_zero, List.set_cons_succ])
                    refine wpAnyH_take (i := 17) (v := ?v38) rfl (by kernel_rfl) (by kernel_rfl) (by kernel_rfl) (fun _ _ _ h => h) (Or.inl ⟨by kernel_rfl, ?h38⟩) (by assumption) ?r38
                    case h38 => (intro w hSw; (try dsimp only at hSw); go_simp <;> (with_reducible rfl))
                    (try simp only [Act.put, List.getElem_toArray, List.getElem_cons_succ, List.getElem_cons_zero, List.setIfInBounds_toArray, List.set_cons_zero, List.set_cons_succ])
                    refine wpAnyH_take (i := 18) (v := ?v39) rfl (by kernel_rfl) (by kernel_rfl) (by kernel_rfl) (fun _ _ _ h => h) (Or.inl ⟨by kernel_rfl, ?h39⟩) (by assumption) ?r39
                    case h39 => (intro w hSw; (try dsimp only at hSw); go_simp <;> (with_reducible rfl))
                    (try simp only [Act.put, List.getElem_toArray, List.getElem_cons_succ, List.getElem_cons_zero, List.setIfInBounds_toArray, List.set_cons_zero, List.set_cons_succ])
                    refine wpAnyH_take (i := 19) (v := ?v40) rfl (by kernel_rfl) (by kernel_rfl) (by kernel_rfl) (fun _ _ _ h => h) (Or.inl ⟨by kernel_rfl, ?h40⟩) (by assumption) ?r40
                    case h40 => (intro w hSw; (try dsimp only at hSw); go_simp <;> (with_reducible rfl))
                    (try simp only [Act.put, List.getElem_toArray, List.getElem_cons_succ, List.getElem_cons_zero, List.setIfInBounds_toArray, List.set_cons_zero, List.set_cons_succ])
                    refine wpAnyH_done (by kernel_rfl) ?_ _
                    clear hHeld
                    go_wp2
                    go_roundw
                    case rel => exact ⟨u, _, by go_num, hT2, hS⟩
                    case measure => simp [intOf]
                  · have hlt' : ¬ ((m0 : Int) < (m1 : Int)) := by omega
                    have hdn := hI.done (.inr (by rw [show u + 1 - 1 = u by omega, ← HB1.out, ← HB0.out, ← HM1.out, ← HM0.out]; omega))
                    go_upto_region 20 with (fail)
                    refine wp_region_held_drew (S := (fun w' => w'.cell? ⟨w.heap.size + 1, u + 1, none⟩ = some (.int .i64 (b1 : Int)) ∧ w'.cell? ⟨w.heap.size + 1, u, none⟩ = some (.int .i64 (b0 : Int)) ∧ w'.cell? ⟨w.heap.size, b1, none⟩ = some (.int .i64 (m1 : Int)) ∧ w'.cell? ⟨w.heap.size, b0, none⟩ = some (.int .i64 (m0 : Int)))) (by kernel_rfl) ?_ (fun hHeld => ?_)
                    · exact ⟨cj1, cj0, cm1, cm0⟩
                    refine wpAnyH_take (i := 0) (v := ?v41) rfl (by kernel_rfl) (by kernel_rfl) (by kernel_rfl) (fun _ _ _ h => h) (Or.inl ⟨by kernel_rfl, ?h41⟩) (by assumption) ?r41
                    case h41 => (intro w hSw; (try dsimp only at hSw); go_simp <;> (with_reducible rfl))
                    (try simp only [Act.put, List.getElem_toArray, List.getElem_cons_succ, List.getElem_cons_zero, List.setIfInBounds_toArray, List.set_cons_zero, List.set_cons_succ])
                    refine wpAnyH_take (i := 1) (v := ?v42) rfl (by kernel_rfl) (by kernel_rfl) (by kernel_rfl) (fun _ _ _ h => h) (Or.inl ⟨by kernel_rfl, ?h42⟩) (by assumption) ?r42
                    case h42 => (intro w hSw; (try dsimp only at hSw); go_simp <;> (with_reducible rfl))
                    (try simp only [Act.put, List.getElem_toArray, List.getElem_cons_succ, List.getElem_cons_zero, List.setIfInBounds_toArray, List.set_cons_zero, List.set_cons_succ])
                    refine wpAnyH_take (i := 2) (v := ?v43) rfl (by kernel_rfl) (by kernel_rfl) (by kernel_rfl) (fun _ _ _ h => h) (Or.inl ⟨by kernel_rfl, ?h43⟩) (by assumption) ?r43
                    case h43 => (intro w hSw; (try dsimp only at hSw); go_simp <;> (with_reducible rfl))
                    (try simp only [Act.put, List.getElem_toArray, List.getElem_cons_succ, List.getElem_cons_zero, List.setIfInBounds_toArray, List.set_cons_zero, List.set_cons_succ])
                    refine wpAnyH_take (i := 3) (v := ?v44) rfl (by kernel_rfl) (by kernel_rfl) (by kernel_rfl) (fun _ _ _ h => h) (Or.inl ⟨by kernel_rfl, ?h44⟩) (by assumption) ?r44
                    case h44 => (intro w hSw; (try dsimp only at hSw); go_simp <;> (with_reducible rfl))
                    (try simp only [Act.put, List.getElem_toArray, List.getElem_cons_succ, List.getElem_cons_zero, List.setIfInBounds_toArray, List.set_cons_zero, List.set_cons_succ])
                    refine wpAnyH_take (i := 4) (v := ?v45) rfl (by kernel_rfl) (by kernel_rfl) (by kernel_rfl) (fun _ _ _ h => h) (Or.inl ⟨by kernel_rfl, ?h45⟩) (by assumption) ?r45
                    case h45 => (intro w hSw; (try dsimp only at hSw); go_simp <;> (with_reducible rfl))
                    (try simp only [Act.put, List.getElem_toArray, List.getElem_cons_succ, List.getElem_cons_zero, List.setIfInBounds_toArray, List.set_cons_zero, List.set_cons_succ])
                    refine wpAnyH_take (i := 5) (v := ?v46) rfl (by kernel_rfl) (by kernel_rfl) (by kernel_rfl) (fun _ _ _ h => h) (Or.inl ⟨by kernel_rfl, ?h46⟩) (by assumption) ?r46
                    case h46 => (intro w hSw; (try dsimp only at hSw); go_simp <;> (with_reducible rfl))
                    (try simp only [Act.put, List.getElem_toArray, List.getElem_cons_succ, List.getElem_cons_zero, List.setIfInBounds_toArray, List.set_cons_zero, List.set_cons_succ])
                    refine wpAnyH_take (i := 6) (v := ?v47) rfl (by kernel_rfl) (by kernel_rfl) (by kernel_rfl) (fun _ _ _ h => h) (Or.inl ⟨by kernel_rfl, ?h47⟩) (by assumption) ?r47
                    case h47 => (intro w hSw; (try dsimp only at hSw); go_simp <;> (with_reducible rfl))
                    (try simp only [Act.put, List.getElem_toArray, List.getElem_cons_succ, List.getElem_cons_zero, List.setIfInBounds_toArray, List.set_cons_zero, List.set_cons_succ])
                    refine wpAnyH_take (i := 7) (v := ?v48) rfl (by kernel_rfl) (by kernel_rfl) (by kernel_rfl) (fun _ _ _ h => h) (Or.inl ⟨by kernel_rfl, ?h48⟩) (by assumption) ?r48
                    case h48 => (intro w hSw; (try dsimp only at hSw); go_simp <;> (with_reducible rfl))
                    (try simp only [Act.put, List.getElem_toArray, List.getElem_cons_succ, List.getElem_cons_zero, List.setIfInBounds_toArray, List.set_cons_zero, List.set_cons_succ])
                    refine wpAnyH_take (i := 8) (v := ?v49) rfl (by kernel_rfl) (by kernel_rfl) (by kernel_rfl) (fun _ _ _ h => h) (Or.inl ⟨by kernel_rfl, ?h49⟩) (by assumption) ?r49
                    case h49 => (intro w hSw; (try dsimp only at hSw); go_simp <;> (with_reducible rfl))
                    (try simp only [Act.put, List.getElem_toArray, List.getElem_cons_succ, List.getElem_cons_zero, List.setIfInBounds_toArray, List.set_cons_zero, List.set_cons_succ])
                    refine wpAnyH_take (i := 9) (v := ?v50) rfl (by kernel_rfl) (by kernel_rfl) (by kernel_rfl) (fun _ _ _ h => h) (Or.inl ⟨by kernel_rfl, ?h50⟩) (by assumption) ?r50
                    case h50 => (intro w hSw; (try dsimp only at hSw); go_simp <;> (with_reducible rfl))
                    (try simp only [Act.put, List.getElem_toArray, List.getElem_cons_succ, List.getElem_cons_zero, List.setIfInBounds_toArray, List.set_cons_zero, List.set_cons_succ])
                    refine wpAnyH_take (i := 10) (v := ?v51) rfl (by kernel_rfl) (by kernel_rfl) (by kernel_rfl) (fun _ _ _ h => h) (Or.inl ⟨by kernel_rfl, ?h51⟩) (by assumption) ?r51
                    case h51 => (intro w hSw; (try dsimp only at hSw); go_simp <;> (with_reducible rfl))
                    (try simp only [Act.put, List.getElem_toArray, List.getElem_cons_succ, List.getElem_cons_zero, List.setIfInBounds_toArray, List.set_cons_zero, List.set_cons_succ])
                    refine wpAnyH_take (i := 11) (v := ?v52) rfl (by kernel_rfl) (by kernel_rfl) (by kernel_rfl) (fun _ _ _ h => h) (Or.inl ⟨by kernel_rfl, ?h52⟩) (by assumption) ?r52
                    case h52 => (intro w hSw; (try dsimp only at hSw); go_simp <;> (with_reducible rfl))
                    (try simp only [Act.put, List.getElem_toArray, List.getElem_cons_succ, List.getElem_cons_zero, List.setIfInBounds_toArray, List.set_cons_zero, List.set_cons_succ])
                    refine wpAnyH_take (i := 12) (v := ?v53) rfl (by kernel_rfl) (by kernel_rfl) (by kernel_rfl) (fun _ _ _ h => h) (Or.inl ⟨by kernel_rfl, ?h53⟩) (by assumption) ?r53
                    case h53 => (intro w hSw; (try dsimp only at hSw); go_simp <;> (with_reducible rfl))
                    (try simp only [Act.put, List.getElem_toArray, List.getElem_cons_succ, List.getElem_cons_zero, List.setIfInBounds_toArray, List.set_cons_zero, List.set_cons_succ])
                    refine wpAnyH_take (i := 13) (v := ?v54) rfl (by kernel_rfl) (by kernel_rfl) (by kernel_rfl) (fun _ _ _ h => h) (Or.inl ⟨by kernel_rfl, ?h54⟩) (by assumption) ?r54
                    case h54 => (intro w hSw; (try dsimp only at hSw); go_simp <;> (with_reducible rfl))
                    (try simp only [Act.put, List.getElem_toArray, List.getElem_cons_succ, List.getElem_cons_zero, List.setIfInBounds_toArray, List.set_cons_zero, List.set_cons_succ])
                    refine wpAnyH_take (i := 14) (v := ?v55) rfl (by kernel_rfl) (by kernel_rfl) (by kernel_rfl) (fun _ _ _ h => h) (Or.inl ⟨by kernel_rfl, ?h55⟩) (by assumption) ?r55
                    case h55 => (intro w hSw; (try dsimp only at hSw); go_simp <;> (with_reducible rfl))
                    (try simp only [Act.put, List.getElem_toArray, List.getElem_cons_succ, List.getElem_cons_zero, List.setIfInBounds_toArray, List.set_cons_zero, List.set_cons_succ])
                    refine wpAnyH_take (i := 15) (v := ?v56) rfl (by kernel_rfl) (by kernel_rfl) (by kernel_rfl) (fun _ _ _ h => h) (Or.inl ⟨by kernel_rfl, ?h56⟩) (by assumption) ?r56
                    case h56 => (intro w hSw; (try dsimp only at hSw); go_simp <;> (with_reducible rfl))
                    (try simp only [Act.put, List.getElem_toArray, List.getElem_cons_succ, List.getElem_cons_zero, List.setIfInBounds_toArray, List.set_cons_zero, List.set_cons_succ])
                    refine wpAnyH_take (i := 16) (v := ?v57) rfl (by kernel_rfl) (by kernel_rfl) (by kernel_rfl) (fun _ _ _ h => h) (Or.inl ⟨by kernel_rfl, ?h57⟩) (by assumption) ?r57
                    case h57 => (intro w hSw; (try dsimp only at hSw); go_simp <;> (with_reducible rfl))
                    (try simp only [Act.put, List.getElem_toArray, List.getElem_cons_succ, List.getElem_cons_zero, List.setIfInBounds_toArray, List.set_cons_zero, List.set_cons_succ])
                    refine wpAnyH_take (i := 17) (v := ?v58) rfl (by kernel_rfl) (by kernel_rfl) (by kernel_rfl) (fun _ _ _ h => h) (Or.inl ⟨by kernel_rfl, ?h58⟩) (by assumption) ?r58
                    case h58 => (intro w hSw; (try dsimp only at hSw); go_simp <;> (with_reducible rfl))
                    (try simp only [Act.put, List.getElem_toArray, List.getElem_cons_succ, List.getElem_cons_zero, List.setIfInBounds_toArray, List.set_cons_zero, List.set_cons_succ])
                    refine wpAnyH_take (i := 18) (v := ?v59) rfl (by kernel_rfl) (by kernel_rfl) (by kernel_rfl) (fun _ _ _ h => h) (Or.inl ⟨by kernel_rfl, ?h59⟩) (by assumption) ?r59
                    case h59 => (intro w hSw; (try dsimp only at hSw); go_simp <;> (with_reducible rfl))
                    (try simp only [Act.put, List.getElem_toArray, List.getElem_cons_succ, List.getElem_cons_zero, List.setIfInBounds_toArray, List.set_cons_zero, List.set_cons_succ])
                    refine wpAnyH_take (i := 19) (v := ?v60) rfl (by kernel_rfl) (by kernel_rfl) (by kernel_rfl) (fun _ _ _ h => h) (Or.inl ⟨by kernel_rfl, ?h60⟩) (by assumption) ?r60
                    case h60 => (intro w hSw; (try dsimp only at hSw); go_simp <;> (with_reducible rfl))
                    (try simp only [Act.put, List.getElem_toArray, List.getElem_cons_succ, List.getElem_cons_zero, List.setIfInBounds_toArray, List.set_cons_zero, List.set_cons_succ])
                    refine wpAnyH_done (by kernel_rfl) ?_ _
                    clear hHeld
                    have hT' := hT.quiet ((Quiet.refl wr).drew)
                    go_wp2
                    go_roundw
                    case rel => exact ⟨y + 1, b, by omega, by omega, by go_num, hT', hI.rng, fun q hq => hdn q (by omega)⟩
                    case measure => simp [intOf]; omega
            · have hye : ¬ ((y : Int) < (x : Int)) := by omega
              obtain rfl : y = x := by omega
              go_wp2
              go_ret3
              rw [HM.out] at hT hso
              exact ⟨rfl, a, hT, hrg, hso⟩

end Go.Proofs.YbulkafceFmt
