/-
  Plain facts about rows of bits that are kept in words of 32 bits: what a word holds, how it is masked, where its lowest bit lies. No program.
-/
import Derived.Laws.BitsAllLaws
import Derived.Lib.TrailingZeros
namespace Go.Proofs.YtojngchcghabiaaGreatDoor
open Go

/-- The number whose bits are f 0, f 1, .., f (n - 1). -/
def packN (f : Nat → Bool) : Nat → Nat
  | 0 => 0
  | n + 1 => packN f n ||| (if f n then 2 ^ n else 0)

theorem packN_testBit (f : Nat → Bool) (n i : Nat) : (packN f n).testBit i = (decide (i < n) && f i) := by
  induction n with
  | zero => simp [packN]
  | succ n ih =>
    simp only [packN, Nat.testBit_or, ih]
    by_cases h : f n
    · simp only [h, if_true, Nat.testBit_two_pow]
      by_cases hi : i < n
      · simp [hi, show i < n + 1 by omega, show n ≠ i by omega]
      · by_cases he : i = n
        · subst he; simp [h]
        · simp [hi, show ¬ i < n + 1 by omega, show n ≠ i by omega]
    · simp only [h, Bool.false_eq_true, if_false, Nat.zero_testBit, Bool.or_false]
      by_cases hi : i < n
      · simp [hi, show i < n + 1 by omega]
      · by_cases he : i = n
        · subst he; simp [h]
        · simp [hi, show ¬ i < n + 1 by omega]

theorem packN_lt (f : Nat → Bool) (n : Nat) : packN f n < 2 ^ n := by
  induction n with
  | zero => simp [packN]
  | succ n ih =>
    simp only [packN]
    apply Nat.or_lt_two_pow
    · rw [Nat.pow_succ]; omega
    · split
      · rw [Nat.pow_succ]; have := Nat.two_pow_pos n; omega
      · exact Nat.two_pow_pos _

theorem packN_zero (f : Nat → Bool) (n : Nat) (h : ∀ i, i < n → f i = false) : packN f n = 0 := by
  apply Nat.eq_of_testBit_eq
  intro i
  rw [packN_testBit, Nat.zero_testBit]
  by_cases hi : i < n
  · simp [hi, h i hi]
  · simp [hi]

theorem packN_ne (f : Nat → Bool) (n b : Nat) (hb : b < n) (h : f b = true) : packN f n ≠ 0 := by
  intro e
  have := packN_testBit f n b
  rw [e, Nat.zero_testBit] at this
  simp [hb, h] at this

theorem packN_congr (f g : Nat → Bool) (n : Nat) (h : ∀ i, i < n → f i = g i) : packN f n = packN g n := by
  apply Nat.eq_of_testBit_eq
  intro i
  rw [packN_testBit, packN_testBit]
  by_cases hi : i < n
  · simp [hi, h i hi]
  · simp [hi]

/-- The j-th word of a row. -/
def wordOf (R : List Bool) (j : Nat) : Nat := packN (fun b => R.getD (32 * j + b) false) 32

theorem wordOf_lt (R : List Bool) (j : Nat) : wordOf R j < 4294967296 := packN_lt _ 32
theorem wordOf_bit (R : List Bool) (j b : Nat) (hb : b < 32) : (wordOf R j).testBit b = R.getD (32 * j + b) false := by
  unfold wordOf; rw [packN_testBit]; simp [hb]
theorem wordOf_at (R : List Bool) (i : Nat) : (wordOf R (i / 32)).testBit (i % 32) = R.getD i false := by
  rw [wordOf_bit R _ _ (Nat.mod_lt _ (by omega)), Nat.div_add_mod]

/-- The j-th word of a row, what lies ahead of a place struck. -/
def wordFrom (R : List Bool) (m j : Nat) : Nat := packN (fun b => decide (m ≤ 32 * j + b) && R.getD (32 * j + b) false) 32

theorem wordFrom_lt (R : List Bool) (m j : Nat) : wordFrom R m j < 4294967296 := packN_lt _ 32
theorem wordFrom_later (R : List Bool) (m j : Nat) (h : m ≤ 32 * j) : wordFrom R m j = wordOf R j :=
  packN_congr _ _ _ fun b _ => by simp [show m ≤ 32 * j + b by omega]
theorem wordFrom_mask (R : List Bool) (m : Nat) : wordOf R (m / 32) &&& (4294967296 - 2 ^ (m % 32)) = wordFrom R m (m / 32) := by
  apply Nat.eq_of_testBit_eq
  intro i
  have hm : m % 32 < 32 := Nat.mod_lt _ (by omega)
  rw [Nat.testBit_and]
  have e : 4294967296 - 2 ^ (m % 32) = 2 ^ 32 - ((2 ^ (m % 32) - 1) + 1) := by have := Nat.two_pow_pos (m % 32); omega
  rw [e, Nat.testBit_two_pow_sub_succ (by have : 2 ^ (m % 32) < 2 ^ 32 := Nat.pow_lt_pow_right (by omega) hm; omega)]
  rw [Nat.testBit_two_pow_sub_one]
  unfold wordFrom wordOf
  rw [packN_testBit, packN_testBit]
  by_cases hi : i < 32
  · simp only [hi, decide_true, Bool.true_and]
    by_cases hj : i < m % 32
    · simp [hj, show ¬ m ≤ 32 * (m / 32) + i by omega]
    · simp [hj, show m ≤ 32 * (m / 32) + i by omega]
  · simp [hi]

/-- The same of a row whose colours are turned, within a word. -/
def wordNot (R : List Bool) (j : Nat) : Nat := packN (fun b => !(R.getD (32 * j + b) false)) 32
theorem wordNot_eq (R : List Bool) (j : Nat) : 4294967295 - wordOf R j = wordNot R j := by
  apply Nat.eq_of_testBit_eq
  intro i
  have e : 4294967295 - wordOf R j = 2 ^ 32 - (wordOf R j + 1) := by omega
  rw [e, Nat.testBit_two_pow_sub_succ (wordOf_lt R j)]
  unfold wordNot wordOf
  rw [packN_testBit, packN_testBit]
  by_cases hi : i < 32 <;> simp [hi]
theorem wordNot_lt (R : List Bool) (j : Nat) : wordNot R j < 4294967296 := packN_lt _ 32
def wordNotFrom (R : List Bool) (m j : Nat) : Nat := packN (fun b => decide (m ≤ 32 * j + b) && !(R.getD (32 * j + b) false)) 32
theorem wordNotFrom_lt (R : List Bool) (m j : Nat) : wordNotFrom R m j < 4294967296 := packN_lt _ 32
theorem wordNotFrom_later (R : List Bool) (m j : Nat) (h : m ≤ 32 * j) : wordNotFrom R m j = wordNot R j :=
  packN_congr _ _ _ fun b _ => by simp [show m ≤ 32 * j + b by omega]
theorem wordNotFrom_mask (R : List Bool) (m : Nat) : wordNot R (m / 32) &&& (4294967296 - 2 ^ (m % 32)) = wordNotFrom R m (m / 32) := by
  apply Nat.eq_of_testBit_eq
  intro i
  have hm : m % 32 < 32 := Nat.mod_lt _ (by omega)
  rw [Nat.testBit_and]
  have e : 4294967296 - 2 ^ (m % 32) = 2 ^ 32 - ((2 ^ (m % 32) - 1) + 1) := by have := Nat.two_pow_pos (m % 32); omega
  rw [e, Nat.testBit_two_pow_sub_succ (by have : 2 ^ (m % 32) < 2 ^ 32 := Nat.pow_lt_pow_right (by omega) hm; omega)]
  rw [Nat.testBit_two_pow_sub_one]
  unfold wordNotFrom wordNot
  rw [packN_testBit, packN_testBit]
  by_cases hi : i < 32
  · simp only [hi, decide_true, Bool.true_and]
    by_cases hj : i < m % 32
    · simp [hj, show ¬ m ≤ 32 * (m / 32) + i by omega]
    · simp [hj, show m ≤ 32 * (m / 32) + i by omega]
  · simp [hi]

/-- Setting a bit. -/
theorem wordOf_set (R : List Bool) (i j : Nat) (hi : i < R.length) : wordOf (R.set i true) j = if j = i / 32 then wordOf R j ||| 2 ^ (i % 32) else wordOf R j := by
  have hget : ∀ m, (R.set i true).getD m false = if m = i then true else R.getD m false := by
    intro m
    simp only [List.getD_eq_getElem?_getD, List.getElem?_set]
    by_cases hm : i = m
    · subst hm; simp [hi]
    · rw [if_neg hm, if_neg (by omega)]
  by_cases hj : j = i / 32
  · rw [if_pos hj]
    apply Nat.eq_of_testBit_eq
    intro b
    rw [Nat.testBit_or, Nat.testBit_two_pow]
    unfold wordOf
    rw [packN_testBit, packN_testBit, hget]
    by_cases hb : b < 32
    · by_cases he : i % 32 = b
      · have : 32 * j + b = i := by omega
        simp [hb, he, this]
      · have : 32 * j + b ≠ i := by omega
        simp [hb, he, this]
    · have : i % 32 ≠ b := by omega
      simp [hb, this]
  · rw [if_neg hj]
    apply packN_congr
    intro b hb
    rw [hget, if_neg (by omega)]

/-- The lowest bit of a number. -/
theorem ctz_of (x b : Nat) (hx : x < 4294967296) (hb : x.testBit b = true) (hl : ∀ i, i < b → x.testBit i = false) : Lib.ctz 32 x = b := by
  have h0 : x ≠ 0 := by rintro rfl; simp at hb
  obtain ⟨m, hm, hk⟩ := Lib.ctzFrom_spec 32 x (by omega) hx
  have e : Lib.ctz 32 x = Lib.ctzFrom 32 x := by simp [Lib.ctz, h0]
  rw [e]
  generalize Lib.ctzFrom 32 x = k at hm hk
  have h1 : x.testBit k = true := by
    rw [hm, Nat.mul_comm, Nat.testBit_mul_two_pow]; simp [Nat.testBit_zero]
  have h2 : ∀ i, i < k → x.testBit i = false := by
    intro i hi; rw [hm, Nat.mul_comm, Nat.testBit_mul_two_pow]; simp; omega
  rcases Nat.lt_trichotomy k b with h | h | h
  · rw [hl k h] at h1; cases h1
  · exact h
  · rw [h2 b h] at hb; cases hb

/-- A mask of a word: the bits from one place to another. -/
theorem mask_zero (R : List Bool) (j lo hi : Nat) (hh : hi < 32) (h : ∀ b, lo ≤ b → b ≤ hi → R.getD (32 * j + b) false = false) (hlh : lo ≤ hi) :
    wordOf R j &&& (2 ^ (hi + 1) - 2 ^ lo) = 0 := by
  apply Nat.eq_of_testBit_eq
  intro i
  rw [Nat.testBit_and, Nat.zero_testBit]
  have e : 2 ^ (hi + 1) - 2 ^ lo = 2 ^ (hi + 1) - ((2 ^ lo - 1) + 1) := by have := Nat.two_pow_pos lo; omega
  have hp : 2 ^ lo < 2 ^ (hi + 1) := Nat.pow_lt_pow_right (by omega) (by omega)
  rw [e, Nat.testBit_two_pow_sub_succ (by omega), Nat.testBit_two_pow_sub_one]
  by_cases hi1 : i < hi + 1
  · by_cases h2 : i < lo
    · simp [h2]
    · rw [wordOf_bit R j i (by omega), h i (by omega) (by omega)]; simp
  · simp [hi1]

end Go.Proofs.YtojngchcghabiaaGreatDoor
