/-
  Keys of two bytes, and how they are compared.
-/
import Derived.Test.YbulkafaaRows
import Derived.WalkKit
import Derived.WalkSpells
import Derived.WalkLawsBesides
import Derived.Laws.Externs
import Derived.Lib.Hide
namespace Go.Proofs.Ybulkafaa
open Go.RowKit

/-- The slice v holds the number n in two bytes. -/
def Key (w : World) (v : Value) (n : Nat) : Prop :=
  n < 65536 ∧ ∃ b, v = .slice (some ⟨b, 0, none⟩) 2 2 ∧ w.cell? ⟨b, 0, none⟩ = some (.int .u8 ((n / 256 : Nat) : Int)) ∧ w.cell? ⟨b, 1, none⟩ = some (.int .u8 ((n % 256 : Nat) : Int))

theorem Key.below {w w' : World} {v : Value} {n : Nat} (h : Key w v n) (hb : Below w.heap.size w w') : Key w' v n := by
  obtain ⟨hn, b, rfl, c0, c1⟩ := h
  have hlt := World.block_lt_of_cell? w _ c0
  exact ⟨hn, b, rfl, (hb.cell (by exact hlt)).trans c0, (hb.cell (by exact hlt)).trans c1⟩

/-- Less, the same, greater. -/
def cmpN (x y : Nat) : Int := if x < y then -1 else if x = y then 0 else 1

theorem cmp_two (a b c d : UInt8) : Extern.BytealgCompare.cmp ⟨#[a, b]⟩ ⟨#[c, d]⟩ = cmpN (a.toNat * 256 + b.toNat) (c.toNat * 256 + d.toNat) := by
  unfold Extern.BytealgCompare.cmp cmpN
  have e : (List.range (min (ByteArray.mk #[a, b]).size (ByteArray.mk #[c, d]).size)) = [0, 1] := rfl
  rw [e]
  have e0 : (ByteArray.mk #[a, b])[0]! = a := rfl
  have e1 : (ByteArray.mk #[a, b])[1]! = b := rfl
  have f0 : (ByteArray.mk #[c, d])[0]! = c := rfl
  have f1 : (ByteArray.mk #[c, d])[1]! = d := rfl
  have ha := a.toNat_lt
  have hb := b.toNat_lt
  have hc := c.toNat_lt
  have hd := d.toNat_lt
  by_cases h1 : a = c
  · subst h1
    have hn : (a != a) = false := by simp
    by_cases h2 : b = d
    · subst h2
      have hn2 : (b != b) = false := by simp
      simp only [List.find?, e0, e1, hn, hn2]
      simp [ByteArray.size]
    · have h3 : b.toNat ≠ d.toNat := fun h => h2 (UInt8.toNat_inj.1 h)
      have hn2 : (b != d) = true := bne_iff_ne.2 h2
      have f0' : (ByteArray.mk #[a, d])[0]! = a := rfl
      simp only [List.find?, e0, e1, f0', f1, hn, hn2, UInt8.lt_iff_toNat_lt]
      by_cases h4 : b.toNat < d.toNat
      · rw [if_pos h4, if_pos (by omega)]
      · rw [if_neg h4, if_neg (by omega), if_neg (by omega)]
  · have h3 : a.toNat ≠ c.toNat := fun h => h1 (UInt8.toNat_inj.1 h)
    have hn : (a != c) = true := bne_iff_ne.2 h1
    simp only [List.find?, e0, f0, hn, UInt8.lt_iff_toNat_lt]
    by_cases h4 : a.toNat < c.toNat
    · rw [if_pos h4, if_pos (by omega)]
    · rw [if_neg h4, if_neg (by omega), if_neg (by omega)]

theorem run_compare {P : Program} {w : World} {v u : Value} {x y : Nat} (hx : Key w v x) (hy : Key w u y) : (Extern.BytealgCompare.compare #[v, u]).run P w = .ok (.int .i64 (cmpN x y)) w := by
  obtain ⟨hn, b, rfl, c0, c1⟩ := hx
  obtain ⟨hm, d, rfl, d0, d1⟩ := hy
  change Sem.run P (do pure (goInt (Extern.BytealgCompare.cmp (← Extern.Bytes.bytesOf (.slice (some ⟨b, 0, none⟩) 2 2)) (← Extern.Bytes.bytesOf (.slice (some ⟨d, 0, none⟩) 2 2))))) w = _
  simp [Extern.Bytes.bytesOf, Extern.Bytes.loadBytes, go_sem, c0, c1, d0, d1]
  have e : ∀ n : Nat, n < 65536 → (ByteArray.empty.push (UInt8.ofNat ((n : Int) / 256).toNat)).push (UInt8.ofNat ((n : Int) % 256).toNat) = ByteArray.mk #[UInt8.ofNat (n / 256), UInt8.ofNat (n % 256)] := by
    intro n _
    have h1 : ((n : Int) / 256).toNat = n / 256 := by omega
    have h2 : ((n : Int) % 256).toNat = n % 256 := by omega
    rw [h1, h2]
    rfl
  rw [e x hn, e y hm, cmp_two]
  have t : ∀ n : Nat, n < 65536 → (UInt8.ofNat (n / 256)).toNat * 256 + (UInt8.ofNat (n % 256)).toNat = n := by
    intro n hn
    rw [UInt8.toNat_ofNat', UInt8.toNat_ofNat']
    omega
  rw [t x hn, t y hm]

theorem entry7 (args : Array Value) (w : World) : (callFunc 7 args).run Yba.prog w = ((Extern.BytealgCompare.compare args).run Yba.prog w).andThen fun v w' => .ok (.value v) w' :=
  run_callFunc_extern Yba.func7 (by kernel_rfl) (by kernel_rfl) (by kernel_rfl) (e := Extern.BytealgCompare.compare) (by kernel_rfl) args w

set_option maxHeartbeats 400000 in
/-- bytes.Compare at two keys. -/
theorem compare_any (v u : Value) (x y : Nat) (w : World) (hx : Key w v x) (hy : Key w u y) :
    Calls Yba.prog 5 #[v, u] w fun e w' => e = .returned (.int .i64 (cmpN x y)) ∧ w' = w := by
  have hrun : (callFunc 7 #[v, u]).run Yba.prog w = .ok (.value (.int .i64 (cmpN x y))) w := by
    rw [entry7, run_compare hx hy]; rfl
  go_enter Yba.func5, Yba.ntmps5
  go_wp2
  go_ret
  exact ⟨rfl, rfl⟩

set_option maxHeartbeats 400000 in
/-- The comparer's method. -/
theorem method_any (cb : Nat) (v u : Value) (x y : Nat) (w : World) (hc : w.cell? ⟨cb, 1, none⟩ = some (.func (.func 5) #[] #[])) (hx : Key w v x) (hy : Key w u y) :
    Calls Yba.prog 14 #[.pointer (some ⟨cb, 0, none⟩), v, u] w fun e w' => e = .returned (.int .i64 (cmpN x y)) ∧ w' = w := by
  go_enter Yba.func14, Yba.ntmps14
  go_wp2_with (go_at_call 5; refine (compare_any v u x y _ hx hy).mono ?_; rintro e w' ⟨rfl, rfl⟩)
  go_ret
  exact ⟨rfl, rfl⟩

/-- Whether a range that ends at e (excluded where x) lies before the key k. -/
def bef (e : Nat) (x : Bool) (k : Nat) : Bool := decide (e < k) || (decide (e = k) && x)

set_option maxHeartbeats 400000 in
theorem before_any (cb : Nat) (ks ke key : Value) (e k : Nat) (x : Bool) (w : World) (hc : w.cell? ⟨cb, 1, none⟩ = some (.func (.func 5) #[] #[])) (he : Key w ke e) (hk : Key w key k) :
    Calls Yba.prog 12 #[.agg #[ks, ke, .bool x], .pointer (some ⟨cb, 0, none⟩), key] w fun en w' => en = .returned (.bool (bef e x k)) ∧ w' = w.alloc (.cells #[ks, ke, .bool x] 48) := by
  have hb : Below w.heap.size w (w.alloc (.cells #[ks, ke, .bool x] 48)) := (Below.refl _ _).alloc (Nat.le_refl _) _
  have hc' : (w.alloc (.cells #[ks, ke, .bool x] 48)).cell? ⟨cb, 1, none⟩ = some (.func (.func 5) #[] #[]) := (hb.cell (World.block_lt_of_cell? w _ hc)).trans hc
  have hm := method_any cb ke key e k _ hc' (he.below hb) (hk.below hb)
  clear hc hc' he hk hb
  unfold bef
  rcases Nat.lt_trichotomy e k with h | h | h
  · have e1 : cmpN e k = -1 := by simp [cmpN, h]
    rw [e1] at hm
    go_enter Yba.func12, Yba.ntmps12
    go_wp2_with (go_at_call 14; refine hm.mono ?_; rintro e w' ⟨rfl, rfl⟩)
    go_ret
    exact ⟨by simp [h], rfl⟩
  · have e1 : cmpN e k = 0 := by simp [cmpN, h]
    rw [e1] at hm
    go_enter Yba.func12, Yba.ntmps12
    go_wp2_with (go_at_call 14; refine hm.mono ?_; rintro e w' ⟨rfl, rfl⟩)
    go_ret
    exact ⟨by simp [h], rfl⟩
  · have e1 : cmpN e k = 1 := by simp [cmpN, show ¬ e < k by omega, show ¬ e = k by omega]
    rw [e1] at hm
    go_enter Yba.func12, Yba.ntmps12
    go_wp2_with (go_at_call 14; refine hm.mono ?_; rintro e w' ⟨rfl, rfl⟩)
    go_ret
    exact ⟨by simp [show ¬ e < k by omega, show ¬ e = k by omega], rfl⟩

/-- The two bytes of a key. -/
def kcells (n : Nat) : Array Value := #[.int .u8 ((n / 256 : Nat) : Int), .int .u8 ((n % 256 : Nat) : Int)]

set_option maxHeartbeats 400000 in
theorem key_any (n : Nat) (hn : n < 65536) (w : World) :
    Calls Yba.prog 4 #[.int .i64 n] w fun e w' => e = .returned (.slice (some ⟨w.heap.size, 0, none⟩) 2 2) ∧ w' = w.alloc (.cells (kcells n) 5) := by
  unfold kcells
  go_enter Yba.func4, Yba.ntmps4
  go_wp2
  go_ret
  exact ⟨rfl, by simp⟩

end Go.Proofs.Ybulkafaa
