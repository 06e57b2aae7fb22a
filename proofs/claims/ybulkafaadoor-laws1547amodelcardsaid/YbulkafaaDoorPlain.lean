/-
  The plain mathematics of a rank set: words of 64 bits over a set of numbers, levels over levels. No Go in sight.
-/
import Derived.Lib.TrailingZeros
namespace Go.Proofs.YbulkafaaDoor

/-- The number whose bit i, for i below k, is f i. -/
def bitsN (f : Nat → Bool) : Nat → Nat
  | 0 => 0
  | k + 1 => bitsN f k + (if f k then 2 ^ k else 0)

theorem bitsN_lt (f : Nat → Bool) : ∀ k, bitsN f k < 2 ^ k
  | 0 => by simp [bitsN]
  | k + 1 => by
    have := bitsN_lt f k
    unfold bitsN
    rw [Nat.pow_succ]
    split <;> omega

theorem testBit_bitsN (f : Nat → Bool) : ∀ k i, (bitsN f k).testBit i = (decide (i < k) && f i)
  | 0, i => by simp [bitsN]
  | k + 1, i => by
    have hlt := bitsN_lt f k
    have ih := testBit_bitsN f k i
    unfold bitsN
    by_cases hk : f k = true
    · rw [if_pos hk, Nat.add_comm]
      by_cases hik : i = k
      · subst hik
        rw [Nat.testBit_two_pow_add_eq, Nat.testBit_lt_two_pow hlt]
        simp [hk]
      · by_cases hl : i < k
        · rw [Nat.testBit_two_pow_add_gt hl, ih]
          simp [hl]; intro; omega
        · have : 2 ^ k + bitsN f k < 2 ^ i := Nat.lt_of_lt_of_le (show 2 ^ k + bitsN f k < 2 ^ (k + 1) by rw [Nat.pow_succ]; omega) (Nat.pow_le_pow_right (by decide) (by omega))
          rw [Nat.testBit_lt_two_pow this]
          have h2 : ¬ i < k + 1 := by omega
          simp [h2]
    · rw [if_neg hk, Nat.add_zero, ih]
      by_cases hik : i = k
      · subst hik; simp at hk; simp [hk]
      · have : (i < k) ↔ (i < k + 1) := by omega
        simp [this]

theorem bitsN_congr {f g : Nat → Bool} : ∀ {k}, (∀ i, i < k → f i = g i) → bitsN f k = bitsN g k
  | 0, _ => rfl
  | k + 1, h => by
    unfold bitsN
    rw [bitsN_congr (fun i hi => h i (by omega)), h k (by omega)]

/-- Word w of the set F. -/
def wordOf (F : Nat → Bool) (w : Nat) : Nat := bitsN (fun b => F (64 * w + b)) 64

theorem wordOf_lt (F : Nat → Bool) (w : Nat) : wordOf F w < 18446744073709551616 := bitsN_lt _ 64
theorem wordOf_bit (F : Nat → Bool) (w i : Nat) : (wordOf F w).testBit i = (decide (i < 64) && F (64 * w + i)) := testBit_bitsN _ 64 i

theorem wordOf_ne (F : Nat → Bool) (w : Nat) : wordOf F w ≠ 0 ↔ ∃ b, b < 64 ∧ F (64 * w + b) = true := by
  constructor
  · intro h
    obtain ⟨i, hi⟩ := Nat.exists_testBit_of_ne_zero h
    rw [wordOf_bit] at hi
    simp at hi
    exact ⟨i, hi⟩
  · rintro ⟨b, hb, hf⟩ h0
    have := wordOf_bit F w b
    rw [h0] at this
    simp [hb, hf] at this

/-- The set with r, the set without r. -/
def plus (F : Nat → Bool) (r : Nat) : Nat → Bool := fun i => F i || i == r
def minus (F : Nat → Bool) (r : Nat) : Nat → Bool := fun i => F i && i != r

theorem word_plus_same (F : Nat → Bool) (r : Nat) : wordOf F (r / 64) ||| 2 ^ (r % 64) = wordOf (plus F r) (r / 64) := by
  apply Nat.eq_of_testBit_eq
  intro i
  rw [Nat.testBit_or, wordOf_bit, wordOf_bit, Nat.testBit_two_pow]
  unfold plus
  by_cases h : i < 64
  · have : (r % 64 = i) ↔ (64 * (r / 64) + i = r) := by omega
    simp [h, this]; rfl
  · have : ¬ r % 64 = i := by omega
    simp [h, this]

theorem word_plus_other (F : Nat → Bool) (r w : Nat) (h : w ≠ r / 64) : wordOf (plus F r) w = wordOf F w := by
  refine bitsN_congr fun i hi => ?_
  have : ¬ 64 * w + i = r := by omega
  simp [plus, this]

theorem word_minus_same (F : Nat → Bool) (r x : Nat) (hx : ∀ i, x.testBit i = ((wordOf F (r / 64)).testBit i && !(2 ^ (r % 64)).testBit i)) : x = wordOf (minus F r) (r / 64) := by
  apply Nat.eq_of_testBit_eq
  intro i
  rw [hx, wordOf_bit, wordOf_bit, Nat.testBit_two_pow]
  unfold minus
  by_cases h : i < 64
  · by_cases e : r % 64 = i
    · have e2 : 64 * (r / 64) + i = r := by omega
      simp [e, e2]
    · have e2 : ¬ 64 * (r / 64) + i = r := by omega
      simp [h, e, e2]
  · simp [h]

theorem word_minus_other (F : Nat → Bool) (r w : Nat) (h : w ≠ r / 64) : wordOf (minus F r) w = wordOf F w := by
  refine bitsN_congr fun i hi => ?_
  have : ¬ 64 * w + i = r := by omega
  simp [minus, this]

/-- The set of level l over the set M: which words of the level below are not zero. -/
def mem (M : Nat → Bool) : Nat → Nat → Bool
  | 0, i => M i
  | l + 1, i => decide (wordOf (mem M l) i ≠ 0)

/-- How many words level l holds. -/
def len (size : Nat) : Nat → Nat
  | 0 => (size + 63) / 64
  | l + 1 => (len size l + 63) / 64

theorem mem_succ (M : Nat → Bool) (l i : Nat) : mem M (l + 1) i = true ↔ ∃ b, b < 64 ∧ mem M l (64 * i + b) = true := by
  simp only [mem, decide_eq_true_eq]
  exact wordOf_ne _ _

/-- How many numbers level l ranges over. -/
def wid (size : Nat) : Nat → Nat
  | 0 => size
  | l + 1 => len size l

theorem len_wid (size l : Nat) : len size l = (wid size l + 63) / 64 := by cases l <;> rfl

theorem wid_le (size : Nat) : ∀ l, wid size l ≤ size
  | 0 => Nat.le_refl _
  | l + 1 => by
    have := wid_le size l
    show len size l ≤ size
    rw [len_wid]
    omega

theorem mem_lt {M : Nat → Bool} {size : Nat} (hM : ∀ i, M i = true → i < size) : ∀ l i, mem M l i = true → i < wid size l
  | 0, i, h => hM i h
  | l + 1, i, h => by
    obtain ⟨b, hb, h'⟩ := (mem_succ M l i).1 h
    have := mem_lt hM l _ h'
    show i < len size l
    rw [len_wid]
    omega

/-- r at level l. -/
def at_ (r : Nat) : Nat → Nat
  | 0 => r
  | l + 1 => at_ r l / 64

theorem at_lt {size r : Nat} (hr : r < size) : ∀ l, at_ r l < wid size l
  | 0 => hr
  | l + 1 => by
    have := at_lt hr l
    show at_ r l / 64 < len size l
    rw [len_wid]
    omega

/-! ### adding -/

theorem mem_plus (M : Nat → Bool) (r : Nat) : ∀ l, mem (plus M r) l = plus (mem M l) (at_ r l)
  | 0 => rfl
  | l + 1 => by
    funext i
    simp only [mem, mem_plus M r l]
    unfold plus
    show decide (wordOf (plus (mem M l) (at_ r l)) i ≠ 0) = _
    by_cases hi : i = at_ r l / 64
    · have h1 : wordOf (plus (mem M l) (at_ r l)) i ≠ 0 := (wordOf_ne _ _).2 ⟨at_ r l % 64, by omega, by
        have : 64 * i + at_ r l % 64 = at_ r l := by omega
        simp [plus, this]⟩
      have e1 : i = at_ r (l + 1) := hi
      simp [h1, e1.symm]
    · rw [word_plus_other _ _ _ hi]
      have : ¬ i = at_ r (l + 1) := hi
      simp [this]

/-- Where the word was not empty the levels above stay. -/
theorem mem_plus_stay (M : Nat → Bool) (r l : Nat) (h : wordOf (mem M l) (at_ r l / 64) ≠ 0) : ∀ k, mem (plus M r) (l + 1 + k) = mem M (l + 1 + k)
  | 0 => by
    rw [Nat.add_zero, mem_plus]
    funext i
    unfold plus
    by_cases hi : i = at_ r (l + 1)
    · have : mem M (l + 1) i = true := by simp only [mem, hi, at_]; simpa using h
      simp [this]
    · simp [hi]
  | k + 1 => by
    show mem (plus M r) ((l + 1 + k) + 1) = mem M ((l + 1 + k) + 1)
    funext i
    simp only [mem, mem_plus_stay M r l h k]

/-! ### removing -/

theorem minus_self {F : Nat → Bool} {r : Nat} (h : F r = false) : minus F r = F := by
  funext i
  unfold minus
  by_cases hi : i = r
  · simp [hi, h]
  · simp [hi]

/-- Level l of the set without r: away from r's place as it was. -/
theorem mem_minus_other (M : Nat → Bool) (r : Nat) : ∀ l i, i ≠ at_ r l → mem (minus M r) l i = mem M l i
  | 0, i, h => by simp only [mem, minus]; simp [show ¬ i = r from h]
  | l + 1, i, h => by
    simp only [mem]
    have : wordOf (mem (minus M r) l) i = wordOf (mem M l) i := bitsN_congr fun b hb => mem_minus_other M r l _ (by have : at_ r (l + 1) = at_ r l / 64 := rfl; omega)
    rw [this]

theorem mem_minus_le (M : Nat → Bool) (r : Nat) : ∀ l i, mem (minus M r) l i = true → mem M l i = true
  | 0, i, h => by simp only [mem, minus] at h ⊢; simp at h; exact h.1
  | l + 1, i, h => by
    obtain ⟨b, hb, h'⟩ := (mem_succ _ l i).1 h
    exact (mem_succ _ l i).2 ⟨b, hb, mem_minus_le M r l _ h'⟩

/-- Where level l is empty at r's place: the level is the old one without that place. -/
theorem mem_minus_eq (M : Nat → Bool) (r l : Nat) (h : mem (minus M r) l (at_ r l) = false) : mem (minus M r) l = minus (mem M l) (at_ r l) := by
  funext i
  by_cases hi : i = at_ r l
  · rw [hi, h]; simp [minus]
  · rw [mem_minus_other M r l i hi]; simp [minus, hi]

/-- Where it is not: the level, and all above it, stay. -/
theorem mem_minus_stay (M : Nat → Bool) (r l : Nat) (h : mem (minus M r) l (at_ r l) = true) : ∀ k, mem (minus M r) (l + k) = mem M (l + k)
  | 0 => by
    rw [Nat.add_zero]
    funext i
    by_cases hi : i = at_ r l
    · rw [hi, h, mem_minus_le M r l _ h]
    · exact mem_minus_other M r l i hi
  | k + 1 => by
    show mem (minus M r) ((l + k) + 1) = mem M ((l + k) + 1)
    funext i
    simp only [mem, mem_minus_stay M r l h k]

/-! ### the least member at or above -/

/-- k is the least member of M at or above r, or size. -/
def IsNext (M : Nat → Bool) (size r k : Nat) : Prop := r ≤ k ∧ k ≤ size ∧ (k = size ∨ M k = true) ∧ ∀ i, r ≤ i → i < k → M i = false

theorem IsNext.unique {M : Nat → Bool} {size r k k' : Nat} (h : IsNext M size r k) (h' : IsNext M size r k') : k = k' := by
  obtain ⟨a1, a2, a3, a4⟩ := h
  obtain ⟨b1, b2, b3, b4⟩ := h'
  rcases Nat.lt_trichotomy k k' with hlt | he | hgt
  · have := b4 k a1 hlt
    rcases a3 with e | e
    · omega
    · rw [e] at this; cases this
  · exact he
  · have := a4 k' b1 hgt
    rcases b3 with e | e
    · omega
    · rw [e] at this; cases this

/-- The climb: nothing of M lies from r up to p's first number at level l. -/
def Clear (M : Nat → Bool) (r l p : Nat) : Prop := ∀ i, r ≤ i → M i = true → p ≤ at_ i l

theorem clear_start (M : Nat → Bool) (r : Nat) : Clear M r 0 r := fun _ h _ => h

theorem mem_of (M : Nat → Bool) (i : Nat) (h : M i = true) : ∀ l, mem M l (at_ i l) = true
  | 0 => h
  | l + 1 => (mem_succ M l _).2 ⟨at_ i l % 64, by omega, by
      have : 64 * at_ i (l + 1) + at_ i l % 64 = at_ i l := by show 64 * (at_ i l / 64) + _ = _; omega
      rw [this]; exact mem_of M i h l⟩

/-- One step up: the word holds nothing from p's place on. -/
theorem clear_up {M : Nat → Bool} {r l p : Nat} (h : Clear M r l p) (hw : wordOf (mem M l) (p / 64) >>> (p % 64) = 0) : Clear M r (l + 1) (p / 64 + 1) := by
  intro i hi hM
  have h1 := h i hi hM
  have h2 := mem_of M i hM l
  show p / 64 + 1 ≤ at_ i l / 64
  by_cases e : at_ i l / 64 = p / 64
  · exfalso
    have hb : (wordOf (mem M l) (p / 64) >>> (p % 64)).testBit (at_ i l % 64 - p % 64) = true := by
      rw [Nat.testBit_shiftRight, wordOf_bit]
      have e2 : p % 64 + (at_ i l % 64 - p % 64) = at_ i l % 64 := by omega
      have e3 : 64 * (p / 64) + at_ i l % 64 = at_ i l := by omega
      rw [e2, e3, h2]
      simp; omega
    rw [hw] at hb
    simp at hb
  · omega

theorem ctz_spec (x : Nat) (h0 : x ≠ 0) (h : x < 18446744073709551616) : x.testBit (Lib.ctz 64 x) = true ∧ Lib.ctz 64 x < 64 ∧ ∀ i, i < Lib.ctz 64 x → x.testBit i = false := by
  have hc : Lib.ctz 64 x = Lib.ctzFrom 64 x := by unfold Lib.ctz; rw [if_neg h0]
  obtain ⟨m, hm, hk⟩ := Lib.ctzFrom_spec 64 x (by omega) h
  rw [hc]
  generalize Lib.ctzFrom 64 x = c at *
  refine ⟨?_, hk, fun i hi => ?_⟩
  · rw [hm, Nat.testBit_two_pow_mul]
    simp
  · rw [hm, Nat.testBit_two_pow_mul]
    simp; intro; omega

/-- The found place: p is a member of level l, and the first at or above r there. -/
def Found (M : Nat → Bool) (r l p : Nat) : Prop := mem M l p = true ∧ (∀ i, r ≤ i → M i = true → p ≤ at_ i l) ∧ ∀ i, at_ i l = p → M i = true → r ≤ i

/-- A member of level l comes from a member of M. -/
theorem mem_from {M : Nat → Bool} : ∀ l p, mem M l p = true → ∃ i, at_ i l = p ∧ M i = true
  | 0, p, h => ⟨p, rfl, h⟩
  | l + 1, p, h => by
    obtain ⟨b, hb, h'⟩ := (mem_succ M l p).1 h
    obtain ⟨i, hi, hM⟩ := mem_from l _ h'
    exact ⟨i, by show at_ i l / 64 = p; omega, hM⟩

theorem at_mono {i j : Nat} (h : i ≤ j) : ∀ l, at_ i l ≤ at_ j l
  | 0 => h
  | l + 1 => Nat.div_le_div_right (at_mono h l)

/-- What the climb keeps beside 'Clear': all numbers from p's first on are at or above r. -/
def Over (r l p : Nat) : Prop := ∀ i, p ≤ at_ i l → r ≤ i

theorem over_start (r : Nat) : Over r 0 r := fun _ h => h
theorem over_up {r l p : Nat} (h : Over r l p) : Over r (l + 1) (p / 64 + 1) := fun i hi => h i (by have : at_ i (l + 1) = at_ i l / 64 := rfl; omega)

theorem found_here {M : Nat → Bool} {r l p x : Nat} (h : Clear M r l p) (ho : Over r l p) (hx : wordOf (mem M l) (p / 64) >>> (p % 64) = x) (h0 : x ≠ 0) :
    Found M r l (p + Lib.ctz 64 x) ∧ (p + Lib.ctz 64 x) / 64 = p / 64 := by
  have hlt : x < 18446744073709551616 := by
    rw [← hx, Nat.shiftRight_eq_div_pow]
    exact Nat.lt_of_le_of_lt (Nat.div_le_self _ _) (wordOf_lt _ _)
  obtain ⟨c1, c2, c3⟩ := ctz_spec x h0 hlt
  generalize Lib.ctz 64 x = c at *
  rw [← hx, Nat.testBit_shiftRight, wordOf_bit] at c1
  simp at c1
  obtain ⟨c4, c5⟩ := c1
  have e1 : 64 * (p / 64) + (p % 64 + c) = p + c := by omega
  rw [e1] at c5
  refine ⟨⟨c5, fun i hi hM => ?_, fun i hi hM => ho i (by omega)⟩, by omega⟩
  have h1 := h i hi hM
  rcases Nat.lt_or_ge (at_ i l) (p + c) with hlt2 | hge
  · exfalso
    have h2 := mem_of M i hM l
    have hb := c3 (at_ i l - p) (by omega)
    rw [← hx, Nat.testBit_shiftRight, wordOf_bit] at hb
    have e3 : 64 * (p / 64) + (p % 64 + (at_ i l - p)) = at_ i l := by omega
    rw [e3, h2] at hb
    simp at hb
    omega
  · exact hge

theorem found_down {M : Nat → Bool} {r l p : Nat} (h : Found M r (l + 1) p) : Found M r l (p * 64 + Lib.ctz 64 (wordOf (mem M l) p)) ∧ wordOf (mem M l) p ≠ 0 := by
  obtain ⟨h1, h2, h3⟩ := h
  have h0 : wordOf (mem M l) p ≠ 0 := by simpa [mem] using h1
  refine ⟨?_, h0⟩
  obtain ⟨c1, c2, c3⟩ := ctz_spec _ h0 (wordOf_lt _ _)
  generalize Lib.ctz 64 (wordOf (mem M l) p) = c at *
  rw [wordOf_bit] at c1
  simp at c1
  refine ⟨by rw [Nat.mul_comm]; exact c1.2, fun i hi hM => ?_, fun i hi hM => h3 i (by show at_ i l / 64 = p; omega) hM⟩
  have a1 := h2 i hi hM
  have a2 : at_ i (l + 1) = at_ i l / 64 := rfl
  rcases Nat.lt_or_ge (at_ i l) (p * 64 + c) with hlt | hge
  · exfalso
    have hm := mem_of M i hM l
    have hb := c3 (at_ i l % 64) (by omega)
    rw [wordOf_bit] at hb
    have e3 : 64 * p + at_ i l % 64 = at_ i l := by omega
    rw [e3, hm] at hb
    simp at hb
    omega
  · exact hge

theorem found_end {M : Nat → Bool} {size r p : Nat} (hM : ∀ i, M i = true → i < size) (h : Found M r 0 p) : IsNext M size r p := by
  obtain ⟨h1, h2, h3⟩ := h
  have h1' : M p = true := h1
  refine ⟨h3 p rfl h1', Nat.le_of_lt (hM p h1'), .inr h1', fun i hi hlt => ?_⟩
  cases hc : M i with
  | false => rfl
  | true => have := h2 i hi hc; have : at_ i 0 = i := rfl; omega

/-- Beyond the last word of a level there is no member at or above r. -/
theorem none_above {M : Nat → Bool} {size r l p : Nat} (hM : ∀ i, M i = true → i < size) (hr : r ≤ size) (h : Clear M r l p) (hp : wid size l ≤ p) : IsNext M size r size := by
  refine ⟨hr, Nat.le_refl _, .inl rfl, fun i hi _ => ?_⟩
  cases hc : M i with
  | false => rfl
  | true =>
    have h1 := h i hi hc
    have h2 := mem_lt hM l _ (mem_of M i hc l)
    omega

end Go.Proofs.YbulkafaaDoor
