/-
  clone and appendRecord, walked.
-/
import Derived.Test.YbulkafaoFmtApp
import Derived.RegionTactic
import Derived.Deep.DeepCutAuto
import Derived.Deep.CutBlock
import Derived.Lib.Hide
import Derived.Lib.LazyBuf
namespace Go.Proofs.YbulkafaoFmt
open Go.RowKit

theorem info5 : (Ybaf.prog.info? 5).map (fun i => (i.zero, i.size, i.bytes)) = some (some (.int .u8 0), 1, 1) := by kernel_rfl
theorem size5 : (Ybaf.prog.info? 5).map (·.size) = some 1 := by kernel_rfl

theorem add_plain (b o j : Nat) : (⟨b, o, none⟩ : Addr).add j = ⟨b, o + j, none⟩ := by
  unfold Addr.add
  split <;> simp_all

theorem mixed : Ybaf.prog.follows .mixedOrders = true := by kernel_rfl

/-- The bytes as cells. -/
def bs (zs : List Int) : List Value := zs.map (Value.int .u8)

theorem bs_length (zs : List Int) : (bs zs).length = zs.length := by simp [bs]
theorem bs_one (zs : List Int) : ∀ u ∈ bs zs, u.oneCell' = true := ints_oneCell _ _
theorem bs_append (xs ys : List Int) : bs xs ++ bs ys = bs (xs ++ ys) := by simp [bs]

/-- The eight octets of v, the greatest first. -/
def be (v : Nat) : List Int := [(v : Int) / 72057594037927936, (v : Int) / 281474976710656 % 256, (v : Int) / 1099511627776 % 256, (v : Int) / 4294967296 % 256, (v : Int) / 16777216 % 256, (v : Int) / 65536 % 256, (v : Int) / 256 % 256, (v : Int) % 256]

theorem be_cells (v : Nat) (hv : v < 18446744073709551616) : Lib.byteCells (Lib.beBytes 8 v) = bs (be v) := by
  have e0 : ((v % 256 : Nat) : Int) = (v : Int) % 256 := by omega
  have e1 : ((v / 256 % 256 : Nat) : Int) = (v : Int) / 256 % 256 := by omega
  have e2 : ((v / 256 / 256 % 256 : Nat) : Int) = (v : Int) / 65536 % 256 := by omega
  have e3 : ((v / 256 / 256 / 256 % 256 : Nat) : Int) = (v : Int) / 16777216 % 256 := by omega
  have e4 : ((v / 256 / 256 / 256 / 256 % 256 : Nat) : Int) = (v : Int) / 4294967296 % 256 := by omega
  have e5 : ((v / 256 / 256 / 256 / 256 / 256 % 256 : Nat) : Int) = (v : Int) / 1099511627776 % 256 := by omega
  have e6 : ((v / 256 / 256 / 256 / 256 / 256 / 256 % 256 : Nat) : Int) = (v : Int) / 281474976710656 % 256 := by omega
  have e7 : ((v / 256 / 256 / 256 / 256 / 256 / 256 / 256 % 256 : Nat) : Int) = (v : Int) / 72057594037927936 := by omega
  simp only [bs, be, Lib.byteCells, Lib.beBytes, Lib.leBytes, List.reverse_cons, List.reverse_nil, List.nil_append, List.cons_append, List.map, Lib.toUInt8_mod, e0, e1, e2, e3, e4, e5, e6, e7]

set_option maxRecDepth 100000 in
/-- zzs1548aclone -/
theorem clone_any (sv : Value) (n : Nat) (zs : List Int) (w : World) (hn : n ≤ 1024) (hs : Src w sv n (bs zs)) :
    Calls Ybaf.prog 4 #[sv] w fun e w' => ∃ v', e = .returned v' ∧ Full w' v' n (bs zs) ∧ Below w.heap.size w w' := by
  obtain ⟨i5, hi5, hz5, hs5, hb5⟩ := info_parts info5
  have hnil := fun (W : World) (a : Option Addr) (l c : Nat) => run_eql_slice_nil (P := Ybaf.prog) W 23 5 a l c Ybaf.underlying23
  rcases hs with ⟨rfl, rfl, hx⟩ | ⟨ad, c, rfl, hl, hc⟩
  · go_enter Ybaf.func4, Ybaf.ntmps4
    go_wp2
    go_ret
    exact ⟨_, rfl, .inl ⟨rfl, rfl, hx⟩, Below.refl _ _⟩
  · go_enter Ybaf.func4, Ybaf.ntmps4
    go_wp2_with (refine wpList_make_full w rfl (.tmp 7) (.tmp 7) 23 rfl w.heap.size 5 i5 (.int .u8 0) 1 Ybaf.underlying23 hi5 hz5 hs5 .i64 .i64 _ _ n rfl rfl rfl rfl (by rw [hb5]; omega) (by unfold maxLen; omega) (Nat.le_refl _) ?_; refine Hid.out ?_)
    refine Lib.hid ?_
    intro w1 ho1 hg1
    obtain ⟨_, ⟨hv, _⟩ | ⟨g, cap, cur, hv, hbg, hg, hnc, hcm, hcs, htake⟩⟩ := ho1
    · cases hv
    simp at hv
    obtain ⟨rfl, rfl⟩ := hv
    have hb1 : Below w.heap.size w w1 := (Below.refl _ _).grown hg1 (Nat.le_refl _) (fun k hk => by cases hk)
    have hcur : w1.heap[w.heap.size]? = some (.cells cur.toList.toArray 5 (0, 0)) := by simpa using hg
    have hlen : cur.toList.length = n := by simpa using hcs
    have hpos : 0 < (bs zs).length → some (⟨w.heap.size, 0, none⟩ : Addr) = some ⟨w.heap.size, 0, none⟩ ∧ ∃ a, some ad = some a ∧ ∀ j v, (bs zs)[j]? = some v → w1.cell? (a.add j) = some v := fun _ => ⟨rfl, ad, rfl, fun j v hj => cell_kept hb1 (Nat.le_refl _) (hc j v hj)⟩
    obtain ⟨cs, HC⟩ : ∃ cs, Hid (cs = bs zs) := ⟨_, rfl⟩
    rw [← HC.out] at hpos
    have hmin : cs.length = Nat.min n n := by rw [HC.out, hl]; exact (Nat.min_self n).symm
    have hone : ∀ v ∈ cs, v.oneCell' = true := by rw [HC.out]; exact bs_one _
    have hfit : 0 + cs.length ≤ cur.toList.length := by rw [hlen, HC.out]; omega
    have HL : Hid (cur.toList.length = n) := hlen
    have HZ : Hid ((bs zs).length = n) := hl
    clear hg1 hlen hl hc htake hg hbg hnc hcm hcs
    go_wp2_with (refine wpList_copy_splice rfl (.tmp 9) (.tmp 10) 23 23 rfl 5 Ybaf.underlying23 size5 _ _ n n n c rfl rfl w.heap.size 0 cur.toList 5 hcur cs hmin hpos hfit hone w.heap.size w hb1 (Nat.le_refl _) ?_; refine Hid.out ?_)
    refine Lib.hid ?_
    intro w2 hw2 hb2
    clear hcur hmin hpos hfit hone hb1
    go_wp2
    go_ret
    have hrow := hw2.out
    refine ⟨_, rfl, .inr ⟨_, rfl, HZ.out, ?_⟩, hb2⟩
    intro j u hj
    have hsp : splice cur.toList 0 cs = bs zs := by rw [HC.out]; have h1 := HL.out; have h2 := HZ.out; simp only [splice, List.take_zero, List.nil_append, Nat.zero_add]; rw [List.drop_eq_nil_of_le (by omega)]; simp
    rw [hsp] at hrow
    rw [add_plain]
    simp [World.cell?, hrow, hj]

theorem src_one (w : World) (b : Nat) (c : Nat) (z : Int) (h : w.cell? ⟨b, 0, none⟩ = some (.int .u8 z)) : Src w (.slice (some ⟨b, 0, none⟩) 1 c) 1 (bs [z]) := by
  refine .inr ⟨_, _, rfl, rfl, ?_⟩
  intro j u hj
  match j, hj with
  | 0, hj => simp [bs] at hj; subst hj; rw [add_plain]; exact h

theorem cells_one (w : World) (b : Nat) (z : Int) (h : w.cell? ⟨b, 0, none⟩ = some (.int .u8 z)) : ∀ j u, (bs [z])[j]? = some u → w.cell? ((⟨b, 0, none⟩ : Addr).add j) = some u := by
  intro j u hj
  match j, hj with
  | 0, hj => simp [bs] at hj; subst hj; rw [add_plain]; exact h

set_option maxRecDepth 100000 in
/-- appendRecord, no record -/
theorem rec_none (v : Value) (n : Nat) (xs : List Int) (w : World) (hn : n ≤ 1024) (hold : Full w v n (bs xs)) :
    Calls Ybaf.prog 5 #[v, .pointer none] w fun e w' => ∃ v', e = .returned v' ∧ w'.ownsRow w.heap.size 5 1 v' (n + 1) (bs (xs ++ [0])) ∧ Below w.heap.size w w' := by
  obtain ⟨i5, hi5, hz5, hs5, hb5⟩ := info_parts info5
  have hold1 := hold.kept (((Below.refl w.heap.size w).alloc (Nat.le_refl _) (.cells #[.int .u8 0] 5))) (Nat.le_refl _)
  have hc1 := cells_one (w.alloc (.cells #[.int .u8 0] 5)) w.heap.size 0 (by simp)
  have hm1 : n + 1 ≤ maxLen := by unfold maxLen; omega
  have hm2 : (n + 1) * 1 ≤ 140737488355328 := by omega
  have hm3 : w.heap.size ≤ (w.alloc (.cells #[.int .u8 0] 5)).heap.size := by simp
  have hone := bs_one [0]
  go_enter Ybaf.func5, Ybaf.ntmps5
  go_wp2_with (at_builtin; refine wpList_app_full _ rfl (.tmp 7) (.tmp 8) 23 rfl w.heap.size 5 i5 (.int .u8 0) 1 Ybaf.underlying23 hi5 hz5 hs5 hb5 rfl v n _ rfl hold1 ⟨w.heap.size, 0, none⟩ 1 1 _ rfl rfl hc1 hone (by decide) hm1 hm2 hm3 ?_; refine Hid.out ?_)
  refine Lib.hid ?_
  intro v' w1 hown hb
  go_wp2
  go_ret
  exact ⟨_, rfl, by rw [← bs_append]; exact hown, ((Below.refl w.heap.size w).alloc (Nat.le_refl _) _).trans hb⟩

set_option maxRecDepth 100000 in
/-- appendRecord, a record -/
theorem rec_held (v : Value) (n : Nat) (xs : List Int) (pb ver : Nat) (sv : Value) (m : Nat) (ys : List Int) (w : World) (hn : n ≤ 1024) (hm : m ≤ 1024) (hver : ver < 18446744073709551616) (hold : Full w v n (bs xs))
    (h0 : w.cell? ⟨pb, 0, none⟩ = some (.int .u64 ver)) (h1 : w.cell? ⟨pb, 1, none⟩ = some sv) (hsv : Src w sv m (bs ys)) :
    Calls Ybaf.prog 5 #[v, .pointer (some ⟨pb, 0, none⟩)] w fun e w' => ∃ v', e = .returned v' ∧ w'.ownsRow w.heap.size 5 1 v' (n + 1 + 8 + m) (bs (xs ++ [1] ++ be ver ++ ys)) ∧ Below w.heap.size w w' := by
  obtain ⟨i5, hi5, hz5, hs5, hb5⟩ := info_parts info5
  have mixed := mixed
  have hold1 := hold.kept (((Below.refl w.heap.size w).alloc (Nat.le_refl _) (.cells #[.int .u8 1] 5))) (Nat.le_refl _)
  have hc1 := cells_one (w.alloc (.cells #[.int .u8 1] 5)) w.heap.size 1 (by simp)
  have hm1 : n + 1 ≤ maxLen := by unfold maxLen; omega
  have hm2 : (n + 1) * 1 ≤ 140737488355328 := by omega
  have hm3 : w.heap.size ≤ (w.alloc (.cells #[.int .u8 1] 5)).heap.size := by simp
  have hone := bs_one [1]
  go_enter Ybaf.func5, Ybaf.ntmps5
  go_wp2_with (at_builtin; refine wpList_app_full _ rfl (.tmp 10) (.tmp 11) 23 rfl w.heap.size 5 i5 (.int .u8 0) 1 Ybaf.underlying23 hi5 hz5 hs5 hb5 rfl v n _ rfl hold1 ⟨w.heap.size, 0, none⟩ 1 1 _ rfl rfl hc1 hone (by decide) hm1 hm2 hm3 ?_; refine Hid.out ?_)
  refine Lib.hid ?_
  intro v1 w1 hown1 hb1
  have hb1' : Below w.heap.size w w1 := ((Below.refl w.heap.size w).alloc (Nat.le_refl _) _).trans hb1
  have g0 := cell_kept hb1' (Nat.le_refl _) h0
  have g1 := cell_kept hb1' (Nat.le_refl _) h1
  have hsv1 := hsv.kept hb1' (Nat.le_refl _)
  have hsz1 : w.heap.size ≤ w1.heap.size := hb1'.size
  have hcall := Any.binary_BE_AppendUint64 Ybaf.laysBin44 w.heap.size (n + 1) ver hver v1 _ w1.drew hown1.drew hsz1 (by omega)
  have H1 : Hid (w.cell? ⟨pb, 1, none⟩ = some sv) := h1
  have HSV : Hid (Src w sv m (bs ys)) := hsv
  clear hold1 hc1 hm1 hm2 hm3 h0 h1 hb1 hsv hold
  go_upto_region 4 with (fail)
  go_cut [0] (fun v wd => wd.ownsRow w.heap.size 5 1 v (n + 1 + 8) (bs xs ++ bs [1] ++ bs (be ver)) ∧ Below w.heap.size w wd)
  case first =>
    go_region_with (go_at_call 8; refine hcall.mono ?_; rintro e w' ⟨v', rfl, h2, h3⟩)
    all_goals
      go_wp2_with fail
      go_meet
      exact ⟨by rw [be_cells ver hver] at h2; exact h2, hb1'.trans ((Below.refl _ _).drew.trans h3)⟩
  case rest =>
    obtain ⟨hown2, hb2⟩ := hcut
    have k1 := cell_kept hb2 (Nat.le_refl _) H1.out
    have hsv2 := HSV.out.kept hb2 (Nat.le_refl _)
    have hm1 : n + 1 + 8 + m ≤ maxLen := by unfold maxLen; omega
    have hm2 : (n + 1 + 8 + m) * 1 ≤ 140737488355328 := by omega
    have hone2 := bs_one ys
    have hsz2 : w.heap.size ≤ wc.heap.size := hb2.size
    clear hcall hown1 hb1' g0 g1 hsv1 hsz1
    go_wp2_with (at_builtin; refine wpList_app _ rfl (.tmp 20) (.tmp 24) 23 rfl w.heap.size 5 i5 (.int .u8 0) 1 Ybaf.underlying23 hi5 hz5 hs5 hb5 rfl _ (n + 1 + 8) _ rfl hown2 sv m _ rfl hsv2 hone2 hm1 hm2 hsz2 ?_; refine Hid.out ?_)
    refine Lib.hid ?_
    intro v3 w3 hown3 hb3
    go_wp2
    go_ret
    exact ⟨v3, rfl, by simpa only [bs_append, List.append_assoc] using hown3, hb2.trans hb3⟩

end Go.Proofs.YbulkafaoFmt
