/-
  LawS1551ATiles behind fill: its loops, walked: a declaration of its own.
-/
import Derived.Test.YbulkafceFmtLawH
namespace Go.Proofs.YbulkafceFmt
open Go.RowKit

theorem pw_at {ps : List Pc} (h : PwApart ps) {a b : Nat} {p q : Pc} (hab : a < b) (hp : ps[a]? = some p) (hq : ps[b]? = some q) : nodesMeet p.f p.n q.f q.n → ¬ (p.a < q.e ∧ q.a < p.e) := by
  obtain ⟨h1, rfl⟩ := List.getElem?_eq_some_iff.1 hp
  obtain ⟨h2, rfl⟩ := List.getElem?_eq_some_iff.1 hq
  exact List.pairwise_iff_getElem.1 h a b h1 h2 hab

theorem and_pow {c : Nat} (hc : c ≤ 6) : bits .and .i64 ((2 ^ c : Nat) : Int) (((2 ^ c : Nat) : Int) - 1) = 0 := by
  have h : ∀ c : Fin 7, bits .and .i64 ((2 ^ c.val : Nat) : Int) (((2 ^ c.val : Nat) : Int) - 1) = 0 := by decide +kernel
  exact h ⟨c, by omega⟩

set_option maxHeartbeats 8000000 in
set_option maxRecDepth 100000 in
theorem law_rest (p q t pre : Int) (rp : Option Addr) (rl rc d0 d1 c0 c1 r0 g mb jb n j P tj tn cap : Nat) (jobs M : Nat → Nat) (ps : List Pc) (w w5 : World) (hRd : Rd w5 g d1 mb jb n j P t jobs M ps) (hj7 : j < 7) (hn7 : n < 7) (hP2 : P ≤ 2) (ht : -2147483648 ≤ t ∧ t ≤ 2147483647)
    (HTJ : Hid (tj = 2 ^ j)) (HTN : Hid (tn = 2 ^ n)) (hb5 : Below w.heap.size w w5) (u32 u33 u34 u35 u36 u37 u38 u39 u40 u41 u42 u43 u44 u45 u46 u47 u48 u49 u50 u51 u52 u53 u54 u55 u56 u57 u58 u59 u60 u61 u62 u63 u64 u65 u66 u67 u68 u69 u70 u71 u72 u73 u74 u75 u76 u77 u78 u79 u80 u81 u82 u83 u84 u85 u86 u87 u88 u89 u90 u91 u92 u93 u94 u95 u96 u97 u98 u99 u100 u101 u102 u103 u104 u105 u106 u107 u108 u109 u110 u111 u112 u113 u114 u115 u116 u117 u118 u119 u120 u121 u122 u123 u124 u125 u126 u127 u128 u129 u130 u131 u132 u133 u134 u135 u136 u137 u138 u139 u140 u141 u142 u143 u144 u145 u146 u147 u148 u149 u150 u151 u152 u153 u154 u155 u156 u157 u158 u159 u160 u161 u162 u163 u164 u165 u166 u167 u168 u169 u170 u171 u172 u173 u174 u175 u176 u177 u178 u179 u180 u181 u182 u183 u184 u185 u186 u187 u188 u189 u190 u191 u192 u193 u194 u195 u196 u197 u198 u199 u200 u201 u202 u203 u204 u205 u206 u207 u208 u209 u210 u211 u212 u213 u214 u215 u216 u217 u218 u219 : Value) :
    Code.wp Ybaf.prog (dropSeq 8 (Ybaf.f3.body.getD .skip)) (bodyPost Ybaf.prog Ybaf.f3 fun e w' => e = .returned (.bool true) ∧ Below w.heap.size w w') ⟨#[.int .u8 p, .int .u8 q, .slice rp rl rc, .int .i32 t, .int .u8 pre, undef, undef, undef, undef, undef, .bool false, .int .i64 (tn : Int), .slice (some ⟨mb, 0, none⟩) tj tj, .slice (some ⟨jb, 0, none⟩) tj tj, .slice (some ⟨d0, 0, none⟩) P c0, .int .i64 (P : Int), .slice (some ⟨d1, 0, none⟩) P c1, .pointer (some ⟨r0, 0, none⟩), .slice (some ⟨g, 0, none⟩) (P + tj) cap, .int .i64 (tj : Int), undef, undef, undef, undef, undef, undef, undef, undef, undef, undef, undef, undef, u32, u33, u34, u35, u36, u37, u38, u39, u40, u41, u42, u43, u44, u45, u46, u47, u48, u49, u50, u51, u52, u53, u54, u55, u56, u57, u58, u59, u60, u61, u62, u63, u64, u65, u66, u67, u68, u69, u70, u71, u72, u73, u74, u75, u76, u77, u78, u79, u80, u81, u82, u83, u84, u85, u86, u87, u88, u89, u90, u91, u92, u93, u94, u95, u96, u97, u98, u99, u100, u101, u102, u103, u104, u105, u106, u107, u108, u109, u110, u111, u112, u113, u114, u115, u116, u117, u118, u119, u120, u121, u122, u123, u124, u125, u126, u127, u128, u129, u130, u131, u132, u133, u134, u135, u136, u137, u138, u139, u140, u141, u142, u143, u144, u145, u146, u147, u148, u149, u150, u151, u152, u153, u154, u155, u156, u157, u158, u159, u160, u161, u162, u163, u164, u165, u166, u167, u168, u169, u170, u171, u172, u173, u174, u175, u176, u177, u178, u179, u180, u181, u182, u183, u184, u185, u186, u187, u188, u189, u190, u191, u192, u193, u194, u195, u196, u197, u198, u199, u200, u201, u202, u203, u204, u205, u206, u207, u208, u209, u210, u211, u212, u213, u214, u215, u216, u217, u218, u219], []⟩ w5 := by
  conv => arg 2; whnf
  let Q' : Exit → Act → World → Prop := bodyPost Ybaf.prog Ybaf.f3 fun e w' => e = .returned (.bool true) ∧ Below w.heap.size w w'
  show Code.wp _ _ Q' _ _
  have mixed := mixed
  have h64 : (2 : Nat) ^ j ≤ 2 ^ 6 := Nat.pow_le_pow_right (by decide) (by omega)
  have hn64 : (2 : Nat) ^ n ≤ 2 ^ 6 := Nat.pow_le_pow_right (by decide) (by omega)
  have htj : tj ≤ 64 := by rw [HTJ.out]; omega
  have htn : tn ≤ 64 := by rw [HTN.out]; omega
  have hPt : IntKind.i64.wrap ((P : Int) + (tj : Int)) = (P : Int) + (tj : Int) := by simp [IntKind.wrap, IntKind.signed, IntKind.bits]; omega
  have HRD : Hid (Rd w5 g d1 mb jb n j P t jobs M ps) := hRd
  clear hRd
  go_wp2
  go_loopw [20] (fun i wr => ∃ k : Nat, k ≤ P ∧ i = .int .i64 (k : Int) ∧ Below w5.heap.size w5 wr) (fun i _ => P - (intOf i).toNat)
  case atStart => exact ⟨0, Nat.zero_le _, rfl, Below.refl _ _⟩
  case round =>
    obtain ⟨k, hk, rfl, hbr⟩ := hrel
    by_cases hkl : k < P
    · have hkl' : (k : Int) < (P : Int) := by omega
      have hkl2 : (k : Int) < (P : Int) + (tj : Int) := by omega
      have hk1 : IntKind.i64.wrap ((k : Int) + 1) = (k : Int) + 1 := by simp [IntKind.wrap, IntKind.signed, IntKind.bits]; omega
      have hR := HRD.out.below hbr
      have a0 := hR.out0 k hkl 0 _ rfl
      have a1 := hR.out0 k hkl 1 _ rfl
      have a2 := hR.out0 k hkl 2 _ rfl
      have a3 := hR.out0 k hkl 3 _ rfl
      have b0 := hR.exp k hkl 0 _ rfl
      have b1 := hR.exp k hkl 1 _ rfl
      have b2 := hR.exp k hkl 2 _ rfl
      have b3 := hR.exp k hkl 3 _ rfl
      simp only [Nat.add_zero] at a0 b0
      clear hR
      go_upto_region 13 with (fail)
      go_quiet (fail)
      go_wp2
      go_roundw
      case rel => exact ⟨k + 1, by omega, by go_num, hbr.trans (((Quiet.refl wr).drewN _).below _)⟩
      case measure => simp [intOf]; omega
    · have hke : ¬ ((k : Int) < (P : Int)) := by omega
      obtain rfl : k = P := by omega
      rename_i hk0
      go_wp2
      go_loopw [21] (fun i wr => ∃ x : Nat, x ≤ tj ∧ i = .int .i64 (x : Int) ∧ Below w5.heap.size w5 wr) (fun i _ => tj - (intOf i).toNat)
      case atStart => exact ⟨0, Nat.zero_le _, rfl, hbr⟩
      case round =>
        clear hbr
        obtain ⟨x, hx, rfl, hbr⟩ := hrel
        by_cases hxl : x < tj
        · have hxl' : (x : Int) < (tj : Int) := by omega
          have hx1 : IntKind.i64.wrap ((x : Int) + 1) = (x : Int) + 1 := by simp [IntKind.wrap, IntKind.signed, IntKind.bits]; omega
          have hPx : IntKind.i64.wrap ((k : Int) + (x : Int)) = (k : Int) + (x : Int) := by simp [IntKind.wrap, IntKind.signed, IntKind.bits]; omega
          have hPx2 : (k : Int) + (x : Int) < (k : Int) + (tj : Int) := by omega
          have hR := HRD.out.below hbr
          have hxj : x < 2 ^ j := by rw [← HTJ.out]; exact hxl
          obtain ⟨pc, hpc⟩ : ∃ pc, ps[x]? = some pc := ⟨ps[x]'(by rw [hR.len]; exact hxj), List.getElem?_eq_getElem _⟩
          have a0 := hR.out1 x pc hpc 0 _ rfl
          have a1 := hR.out1 x pc hpc 1 _ rfl
          have a2 := hR.out1 x pc hpc 2 _ rfl
          have a3 := hR.out1 x pc hpc 3 _ rfl
          simp only [Nat.add_zero] at a0
          obtain ⟨⟨e, he, hpn, hpe⟩, hle, hrow, hfn⟩ := hR.good x pc hpc
          have cj := (hR.jb x hxj).1
          have cm := hR.mb (jobs x) (hR.jb x hxj).2
          have hjk : jobs x < tj := by rw [HTJ.out]; exact (hR.jb x hxj).2
          have hNT : tn = pc.n * 2 ^ (n - e) := by rw [HTN.out, hpn, ← Nat.pow_add]; congr 1; omega
          have hN0 : 0 < pc.n := by rw [hpn]; exact pow_pos2 _
          rw [← HTN.out] at hrow
          rw [← HTJ.out, hpe] at hfn
          have hand := and_pow (c := e) (by omega)
          rw [← hpn] at hand
          clear hR hpc hpn hpe
          obtain ⟨jk, HJK⟩ : ∃ v, Hid (v = jobs x) := ⟨_, rfl⟩
          obtain ⟨m, HM⟩ : ∃ v, Hid (v = M (jobs x)) := ⟨_, rfl⟩
          rw [← HM.out] at cm hle
          rw [← HJK.out] at a0 cj cm hjk
          obtain ⟨N, HN⟩ : ∃ v, Hid (v = pc.n) := ⟨_, rfl⟩
          obtain ⟨F, HF⟩ : ∃ v, Hid (v = pc.f) := ⟨_, rfl⟩
          obtain ⟨A, HA⟩ : ∃ v, Hid (v = pc.a) := ⟨_, rfl⟩
          obtain ⟨T, HT⟩ : ∃ v : Nat, Hid (v = 2 ^ (n - e)) := ⟨_, rfl⟩
          rw [← HN.out] at a1 hle hrow hNT hN0 hand
          rw [← HF.out] at a2 hrow
          rw [← HA.out] at a3 hfn
          rw [← HT.out] at hNT hfn
          have hjk' : (jk : Int) < (tj : Int) := by omega
          have hN0' : ¬ (N : Int) = 0 := by omega
          have c1 : ¬ ((N : Int) ≤ 0) := by omega
          have c1a : decide ((N : Int) ≤ 0) = false := decide_eq_false c1
          have c1b : ¬ N = 0 := by omega
          have c1c : decide (N = 0) = false := decide_eq_false c1b
          have c3 : ¬ ((tn : Int) < (N : Int)) := by omega
          have c4 : ¬ ((N : Int) < (m : Int)) := by omega
          have c5 : ¬ ((F : Int) < 0) := by omega
          have c6 : ¬ ((tn : Int) < (F : Int) + (N : Int)) := by omega
          have c7 : ¬ ((A : Int) < 0) := by omega
          have c8 : ¬ ((tj : Int) < (A : Int) + (T : Int)) := by omega
          have v1 : IntKind.i64.wrap ((F : Int) + (N : Int)) = (F : Int) + (N : Int) := by simp [IntKind.wrap, IntKind.signed, IntKind.bits]; omega
          have v2 : IntKind.i64.wrap (t + (A : Int) - t) = (A : Int) := by simp [IntKind.wrap, IntKind.signed, IntKind.bits]; omega
          have v2' : IntKind.i64.wrap (A : Int) = (A : Int) := by simp [IntKind.wrap, IntKind.signed, IntKind.bits]; omega
          have v3 : IntKind.i64.wrap ((A : Int) + (T : Int)) = (A : Int) + (T : Int) := by simp [IntKind.wrap, IntKind.signed, IntKind.bits]; omega
          have v4 : IntKind.i64.wrap ((N : Int) - 1) = (N : Int) - 1 := by simp [IntKind.wrap, IntKind.signed, IntKind.bits]; omega
          have wt : IntKind.i64.wrap t = t := by simp [IntKind.wrap, IntKind.signed, IntKind.bits]; omega
          have hquo : (tn : Int).tdiv (N : Int) = (T : Int) := by rw [hNT, Int.natCast_mul]; exact Int.mul_tdiv_cancel_left _ hN0'
          clear hNT
          have hba : Below w5.heap.size w5 (wr.alloc (.cells #[.int .i64 (jk : Int), .int .i64 (N : Int), .int .i64 (F : Int), .int .i64 (t + (A : Int))] 44)) := hbr.alloc hbr.size _
          have cj' : (wr.alloc (.cells #[.int .i64 (jk : Int), .int .i64 (N : Int), .int .i64 (F : Int), .int .i64 (t + (A : Int))] 44)).cell? ⟨jb, x, none⟩ = some (.int .i64 (jk : Int)) := (World.cell?_of_block (Below.heap_alloc _ _ _ (World.block_lt_of_cell? wr _ cj))).trans cj
          have cm' : (wr.alloc (.cells #[.int .i64 (jk : Int), .int .i64 (N : Int), .int .i64 (F : Int), .int .i64 (t + (A : Int))] 44)).cell? ⟨mb, jk, none⟩ = some (.int .i64 (m : Int)) := (World.cell?_of_block (Below.heap_alloc _ _ _ (World.block_lt_of_cell? wr _ cm))).trans cm
          go_upto_region 19 with (fail)
          obtain ⟨wa, HWA⟩ : ∃ wa, Hid (wa = wr.alloc (.cells #[.int .i64 (jk : Int), .int .i64 (N : Int), .int .i64 (F : Int), .int .i64 (t + (A : Int))] 44)) := ⟨_, rfl⟩
          obtain ⟨n1, HN1⟩ : ∃ n1, Hid (n1 = wr.heap.size) := ⟨_, rfl⟩
          have q0 : wa.cell? ⟨n1, 0, none⟩ = some (.int .i64 (jk : Int)) := by rw [HWA.out, HN1.out]; simp
          have q1 : wa.cell? ⟨n1, 1, none⟩ = some (.int .i64 (N : Int)) := by rw [HWA.out, HN1.out]; simp
          have q2 : wa.cell? ⟨n1, 2, none⟩ = some (.int .i64 (F : Int)) := by rw [HWA.out, HN1.out]; simp
          have q3 : wa.cell? ⟨n1, 3, none⟩ = some (.int .i64 (t + (A : Int))) := by rw [HWA.out, HN1.out]; simp
          rw [← HWA.out] at hba cj' cm' ⊢
          rw [← HN1.out]
          clear HWA HN1 a0 a1 a2 a3 cj cm hbr
          go_quiet (fail)
          go_upto_region 21 with (fail)
          go_quiet (fail)
          go_wp2
          go_roundw
          case rel => exact ⟨x + 1, by omega, by go_num, hba.trans (((Quiet.refl wa).drewN _).below _)⟩
          case measure => simp [intOf]; omega
        · have hxe : ¬ ((x : Int) < (tj : Int)) := by omega
          obtain rfl : x = tj := by omega
          go_wp2
          go_loopw [24] (fun i wr => ∃ y : Nat, y ≤ x ∧ i = .int .i64 (y : Int) ∧ Below w5.heap.size w5 wr) (fun i _ => x - (intOf i).toNat)
          case atStart => exact ⟨0, Nat.zero_le _, rfl, hbr⟩
          case round =>
            clear hbr
            obtain ⟨y, hy, rfl, hbr⟩ := hrel
            by_cases hyl : y < x
            · have hyl' : (y : Int) < (x : Int) := by omega
              have hy1 : IntKind.i64.wrap ((y : Int) + 1) = (y : Int) + 1 := by simp [IntKind.wrap, IntKind.signed, IntKind.bits]; omega
              have hPy : IntKind.i64.wrap ((k : Int) + (y : Int)) = (k : Int) + (y : Int) := by simp [IntKind.wrap, IntKind.signed, IntKind.bits]; omega
              have hPy2 : (k : Int) + (y : Int) < (k : Int) + (x : Int) := by omega
              have hRA := HRD.out.below hbr
              have hxjA : y < 2 ^ j := by rw [← HTJ.out]; omega
              obtain ⟨pA, hpA⟩ : ∃ pc, ps[y]? = some pc := ⟨ps[y]'(by rw [hRA.len]; exact hxjA), List.getElem?_eq_getElem _⟩
              have aA0 := hRA.out1 y pA hpA 0 _ rfl
              have aA1 := hRA.out1 y pA hpA 1 _ rfl
              have aA2 := hRA.out1 y pA hpA 2 _ rfl
              have aA3 := hRA.out1 y pA hpA 3 _ rfl
              simp only [Nat.add_zero] at aA0
              obtain ⟨⟨eA, heA, hpnA, hpeA⟩, _, hrowA, hfnA⟩ := hRA.good y pA hpA
              have hNTA : tn = pA.n * 2 ^ (n - eA) := by rw [HTN.out, hpnA, ← Nat.pow_add]; congr 1; omega
              have hNA : 0 < pA.n := by rw [hpnA]; exact pow_pos2 _
              rw [← HTN.out] at hrowA
              rw [← HTJ.out, hpeA] at hfnA
              clear hRA hpnA
              obtain ⟨jA, HJA⟩ : ∃ v, Hid (v = jobs y) := ⟨_, rfl⟩
              obtain ⟨NA, HNA⟩ : ∃ v, Hid (v = pA.n) := ⟨_, rfl⟩
              obtain ⟨FA, HFA⟩ : ∃ v, Hid (v = pA.f) := ⟨_, rfl⟩
              obtain ⟨TA, HTA⟩ : ∃ v : Nat, Hid (v = 2 ^ (n - eA)) := ⟨_, rfl⟩
              obtain ⟨XA, HXA⟩ : ∃ v : Int, Hid (v = t + (pA.a : Int)) := ⟨_, rfl⟩
              obtain ⟨EA, HEA⟩ : ∃ v : Int, Hid (v = XA + (TA : Int)) := ⟨_, rfl⟩
              rw [← HJA.out] at aA0
              rw [← HNA.out] at aA1 hrowA hNTA hNA
              rw [← HFA.out] at aA2 hrowA
              rw [← HXA.out] at aA3
              rw [← HTA.out] at hNTA hfnA hpeA
              have hNA' : ¬ (NA : Int) = 0 := by omega
              have hquoA : (tn : Int).tdiv (NA : Int) = (TA : Int) := by rw [hNTA, Int.natCast_mul]; exact Int.mul_tdiv_cancel_left _ hNA'
              have hEA : IntKind.i64.wrap (XA + (TA : Int)) = EA := by rw [HEA.out]; have hx := HXA.out; simp [IntKind.wrap, IntKind.signed, IntKind.bits]; omega
              have hSA : IntKind.i64.wrap ((FA : Int) + (NA : Int)) = (FA : Int) + (NA : Int) := by simp [IntKind.wrap, IntKind.signed, IntKind.bits]; omega
              clear hNTA
              go_upto_region 32 with (fail)
              obtain ⟨wA, HWA⟩ : ∃ wa, Hid (wa = wr.alloc (.cells #[.int .i64 (jA : Int), .int .i64 (NA : Int), .int .i64 (FA : Int), .int .i64 XA] 44)) := ⟨_, rfl⟩
              obtain ⟨nA, HNBA⟩ : ∃ n1, Hid (n1 = wr.heap.size) := ⟨_, rfl⟩
              have qA1 : wA.cell? ⟨nA, 1, none⟩ = some (.int .i64 (NA : Int)) := by rw [HWA.out, HNBA.out]; simp
              have qA2 : wA.cell? ⟨nA, 2, none⟩ = some (.int .i64 (FA : Int)) := by rw [HWA.out, HNBA.out]; simp
              have qA3 : wA.cell? ⟨nA, 3, none⟩ = some (.int .i64 XA) := by rw [HWA.out, HNBA.out]; simp
              have hbA : Below w5.heap.size w5 wA := by rw [HWA.out]; exact hbr.alloc hbr.size _
              rw [← HWA.out, ← HNBA.out]
              clear HWA HNBA aA0 aA1 aA2 aA3 hbr
              go_quiet (fail)
              go_wp2
              go_loopw [27] (fun i wr => ∃ z : Nat, y < z ∧ z ≤ x ∧ i = .int .i64 (z : Int) ∧ Below wA.heap.size wA wr) (fun i _ => x - (intOf i).toNat)
              case atStart => exact ⟨y + 1, by omega, by omega, by go_num, ((Quiet.refl wA).drewN _).below _⟩
              case round =>
                obtain ⟨z, hz0, hz, rfl, hbz⟩ := hrel
                by_cases hzl : z < x
                · have hzl' : (z : Int) < (x : Int) := by omega
                  have hz1 : IntKind.i64.wrap ((z : Int) + 1) = (z : Int) + 1 := by simp [IntKind.wrap, IntKind.signed, IntKind.bits]; omega
                  have hPz : IntKind.i64.wrap ((k : Int) + (z : Int)) = (k : Int) + (z : Int) := by simp [IntKind.wrap, IntKind.signed, IntKind.bits]; omega
                  have hPz2 : (k : Int) + (z : Int) < (k : Int) + (x : Int) := by omega
                  have hb5z : Below w5.heap.size w5 wr := hbA.trans (hbz.mono hbA.size)
                  have hRB := HRD.out.below hb5z
                  have hxjB : z < 2 ^ j := by rw [← HTJ.out]; omega
                  obtain ⟨pB, hpB⟩ : ∃ pc, ps[z]? = some pc := ⟨ps[z]'(by rw [hRB.len]; exact hxjB), List.getElem?_eq_getElem _⟩
                  have aB0 := hRB.out1 z pB hpB 0 _ rfl
                  have aB1 := hRB.out1 z pB hpB 1 _ rfl
                  have aB2 := hRB.out1 z pB hpB 2 _ rfl
                  have aB3 := hRB.out1 z pB hpB 3 _ rfl
                  simp only [Nat.add_zero] at aB0
                  obtain ⟨⟨eB, heB, hpnB, hpeB⟩, _, hrowB, hfnB⟩ := hRB.good z pB hpB
                  have hNTB : tn = pB.n * 2 ^ (n - eB) := by rw [HTN.out, hpnB, ← Nat.pow_add]; congr 1; omega
                  have hNB : 0 < pB.n := by rw [hpnB]; exact pow_pos2 _
                  rw [← HTN.out] at hrowB
                  rw [← HTJ.out, hpeB] at hfnB
                  clear hRB hpnB
                  obtain ⟨jB, HJB⟩ : ∃ v, Hid (v = jobs z) := ⟨_, rfl⟩
                  obtain ⟨NB, HNB⟩ : ∃ v, Hid (v = pB.n) := ⟨_, rfl⟩
                  obtain ⟨FB, HFB⟩ : ∃ v, Hid (v = pB.f) := ⟨_, rfl⟩
                  obtain ⟨TB, HTB⟩ : ∃ v : Nat, Hid (v = 2 ^ (n - eB)) := ⟨_, rfl⟩
                  obtain ⟨XB, HXB⟩ : ∃ v : Int, Hid (v = t + (pB.a : Int)) := ⟨_, rfl⟩
                  obtain ⟨EB, HEB⟩ : ∃ v : Int, Hid (v = XB + (TB : Int)) := ⟨_, rfl⟩
                  rw [← HJB.out] at aB0
                  rw [← HNB.out] at aB1 hrowB hNTB hNB
                  rw [← HFB.out] at aB2 hrowB
                  rw [← HXB.out] at aB3
                  rw [← HTB.out] at hNTB hfnB hpeB
                  have hNB' : ¬ (NB : Int) = 0 := by omega
                  have hquoB : (tn : Int).tdiv (NB : Int) = (TB : Int) := by rw [hNTB, Int.natCast_mul]; exact Int.mul_tdiv_cancel_left _ hNB'
                  have hEB : IntKind.i64.wrap (XB + (TB : Int)) = EB := by rw [HEB.out]; have hx := HXB.out; simp [IntKind.wrap, IntKind.signed, IntKind.bits]; omega
                  have hSB : IntKind.i64.wrap ((FB : Int) + (NB : Int)) = (FB : Int) + (NB : Int) := by simp [IntKind.wrap, IntKind.signed, IntKind.bits]; omega
                  clear hNTB
                  have hap := pw_at HRD.out.apart hz0 hpA hpB
                  go_upto_region 37 with (fail)
                  obtain ⟨wB, HWB⟩ : ∃ wa, Hid (wa = wr.alloc (.cells #[.int .i64 (jB : Int), .int .i64 (NB : Int), .int .i64 (FB : Int), .int .i64 XB] 44)) := ⟨_, rfl⟩
                  obtain ⟨nB, HNBB⟩ : ∃ n1, Hid (n1 = wr.heap.size) := ⟨_, rfl⟩
                  have qB1 : wB.cell? ⟨nB, 1, none⟩ = some (.int .i64 (NB : Int)) := by rw [HWB.out, HNBB.out]; simp
                  have qB2 : wB.cell? ⟨nB, 2, none⟩ = some (.int .i64 (FB : Int)) := by rw [HWB.out, HNBB.out]; simp
                  have qB3 : wB.cell? ⟨nB, 3, none⟩ = some (.int .i64 XB) := by rw [HWB.out, HNBB.out]; simp
                  have hkA : ∀ {c : Addr} {v : Value}, wA.cell? c = some v → wB.cell? c = some v := fun {c v} hc => by
                    rw [HWB.out]
                    have h1 := (World.cell?_of_block (hbz.block c.block (World.block_lt_of_cell? wA c hc))).trans hc
                    exact (World.cell?_of_block (Below.heap_alloc _ _ _ (World.block_lt_of_cell? wr c h1))).trans h1
                  have hbB : Below wA.heap.size wA wB := by rw [HWB.out]; exact hbz.alloc hbz.size _
                  rw [← HWB.out, ← HNBB.out]
                  have s1 := hkA qA1
                  have s2 := hkA qA2
                  have s3 := hkA qA3
                  clear HWB HNBB aB0 aB1 aB2 aB3 hbz hb5z hkA
                  have hnot : ((FA : Int) < (FB : Int) + (NB : Int) ∧ (FB : Int) < (FA : Int) + (NA : Int)) → ¬ (XA < EB ∧ XB < EA) := by
                    rintro ⟨g1, g2⟩ ⟨g3, g4⟩
                    have e1 := HXA.out; have e2 := HXB.out; have e3 := HEA.out; have e4 := HEB.out
                    refine hap ⟨?_, ?_⟩ ⟨?_, ?_⟩
                    · rw [← HFA.out, ← HFB.out, ← HNB.out]; omega
                    · rw [← HFA.out, ← HFB.out, ← HNA.out]; omega
                    · omega
                    · omega
                  have HNOT : Hid (((FA : Int) < (FB : Int) + (NB : Int) ∧ (FB : Int) < (FA : Int) + (NA : Int)) → ¬ (XA < EB ∧ XB < EA)) := hnot
                  clear hnot hap hpA hpB
                  go_quiet (fail)
                  have hfin : ∀ m, Below wA.heap.size wA (wB.drewN m) := fun m => hbB.trans (((Quiet.refl wB).drewN m).below _)
                  by_cases g1 : (FA : Int) < (FB : Int) + (NB : Int)
                  · by_cases g2 : (FB : Int) < (FA : Int) + (NA : Int)
                    · by_cases g3 : XA < EB
                      · have g4 : ¬ XB < EA := fun g4 => HNOT.out ⟨g1, g2⟩ ⟨g3, g4⟩
                        go_wp2
                        go_roundw
                        case rel => exact ⟨z + 1, by omega, by omega, by go_num, hfin _⟩
                        case measure => simp [intOf]; omega
                      · go_wp2
                        go_roundw
                        case rel => exact ⟨z + 1, by omega, by omega, by go_num, hfin _⟩
                        case measure => simp [intOf]; omega
                    · go_wp2
                      all_goals
                        go_roundw
                        case rel => exact ⟨z + 1, by omega, by omega, by go_num, hfin _⟩
                        case measure => simp [intOf]; omega
                  · go_wp2
                    all_goals
                      go_roundw
                      case rel => exact ⟨z + 1, by omega, by omega, by go_num, hfin _⟩
                      case measure => simp [intOf]; omega
                · have hze : ¬ ((z : Int) < (x : Int)) := by omega
                  go_wp2
                  go_roundw
                  case rel => exact ⟨y + 1, by omega, by go_num, hbA.trans (hbz.mono hbA.size)⟩
                  case measure => simp [intOf]; omega
            · have hye : ¬ ((y : Int) < (x : Int)) := by omega
              go_wp2
              go_ret
              exact ⟨rfl, hb5.trans (hbr.mono hb5.size)⟩

end Go.Proofs.YbulkafceFmt
