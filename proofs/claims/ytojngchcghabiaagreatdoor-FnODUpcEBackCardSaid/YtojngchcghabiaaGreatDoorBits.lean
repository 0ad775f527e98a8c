/-
  The walks over the methods of BitArray: what each call answers of the row that the words hold.
-/
import Derived.Test.YtojngchcghabiaaGreatDoorProg
import Derived.Test.YtojngchcghabiaaGreatDoorMem
import Derived.Test.YtojngchcghabiaaGreatDoorWords
import Derived.WalkLawsBesides
import Derived.WalkSpells
import Derived.KernelRfl
namespace Go.Proofs.YtojngchcghabiaaGreatDoor
open Go Go.RowKit

theorem Tryz.underlying80 : Tryz.prog.underlying 80 = some (.slice 84) := by kernel_rfl
theorem Tryz.underlying84 : Tryz.prog.underlying 84 = some (.int .u32) := by kernel_rfl

/-- The words of a row, as cells. -/
def wordCells (R : List Bool) (k : Nat) : List Value := (List.range k).map fun j => .int .u32 (wordOf R j)

/-- A BitArray at p, its words at gw, holds the row R. -/
structure Bits (w : World) (p gw : Nat) (R : List Bool) : Prop where
  head : Whole w p 83 [.slice (some ⟨gw, 0, none⟩) ((R.length + 31) / 32) ((R.length + 31) / 32), .int .i64 R.length]
  words : Whole w gw 84 (wordCells R ((R.length + 31) / 32))
  small : R.length ≤ 100000

section
variable {w w' : World} {p gw : Nat} {R : List Bool}
theorem Bits.ne (h : Bits w p gw R) : p ≠ gw := h.head.ne h.words (by decide)
theorem Bits.c0 (h : Bits w p gw R) : w.cell? ⟨p, 0, none⟩ = some (.slice (some ⟨gw, 0, none⟩) ((R.length + 31) / 32) ((R.length + 31) / 32)) := h.head.cell 0
theorem Bits.c1 (h : Bits w p gw R) : w.cell? ⟨p, 1, none⟩ = some (.int .i64 R.length) := h.head.cell 1
theorem Bits.cw (h : Bits w p gw R) (j : Nat) (hj : j < (R.length + 31) / 32) : w.cell? ⟨gw, j, none⟩ = some (.int .u32 (wordOf R j)) := by
  rw [h.words.cell]; simp [wordCells, hj]
theorem Bits.left {row : Option Nat} (h : Bits w p gw R) (hf : Left' row w w') (h1 : row ≠ some p) (h2 : row ≠ some gw) : Bits w' p gw R := ⟨h.head.left hf h1, h.words.left hf h2, h.small⟩
end

set_option maxHeartbeats 400000 in
theorem getSize_any (p gw : Nat) (R : List Bool) (w : World) (h : Bits w p gw R) :
    Calls Tryz.prog 60 #[.pointer (some ⟨p, 0, none⟩)] w fun e w' => e = .returned (.int .i64 R.length) ∧ w = w' := by
  have h1 := h.c1
  clear h
  go_enter Tryz.func60, Tryz.ntmps60
  go_wp2
  go_ret
  exact ⟨rfl, rfl⟩

theorem bits_and_u32_nat (a b : Nat) (ha : a < 4294967296) (hb : b < 4294967296) : bits .and .u32 (a : Int) (b : Int) = ((a &&& b : Nat) : Int) := by
  have hx : a &&& b < 2 ^ 32 := Nat.and_lt_two_pow _ (by omega)
  have h1 : (BitVec.ofInt 32 (a : Int)).toNat = a := by
    rw [BitVec.ofInt_natCast, BitVec.toNat_ofNat]; exact Nat.mod_eq_of_lt (by omega)
  have h2 : (BitVec.ofInt 32 (b : Int)).toNat = b := by
    rw [BitVec.ofInt_natCast, BitVec.toNat_ofNat]; exact Nat.mod_eq_of_lt (by omega)
  show IntKind.u32.wrap ((BitVec.ofInt 32 (a : Int) &&& BitVec.ofInt 32 (b : Int)).toNat : Int) = _
  rw [BitVec.toNat_and, h1, h2, show ∀ n, IntKind.u32.wrap n = n % 4294967296 from fun n => by simp [IntKind.wrap, IntKind.signed, IntKind.bits]]
  omega
theorem bits_or_u32_nat (a b : Nat) (ha : a < 4294967296) (hb : b < 4294967296) : bits .or .u32 (a : Int) (b : Int) = ((a ||| b : Nat) : Int) := by
  have hx : a ||| b < 2 ^ 32 := Nat.or_lt_two_pow (by omega) (by omega)
  have h1 : (BitVec.ofInt 32 (a : Int)).toNat = a := by
    rw [BitVec.ofInt_natCast, BitVec.toNat_ofNat]; exact Nat.mod_eq_of_lt (by omega)
  have h2 : (BitVec.ofInt 32 (b : Int)).toNat = b := by
    rw [BitVec.ofInt_natCast, BitVec.toNat_ofNat]; exact Nat.mod_eq_of_lt (by omega)
  show IntKind.u32.wrap ((BitVec.ofInt 32 (a : Int) ||| BitVec.ofInt 32 (b : Int)).toNat : Int) = _
  rw [BitVec.toNat_or, h1, h2, show ∀ n, IntKind.u32.wrap n = n % 4294967296 from fun n => by simp [IntKind.wrap, IntKind.signed, IntKind.bits]]
  omega

theorem pow32 (b : Nat) (hb : b < 32) : ((2 : Int) ^ b) % 4294967296 = ((2 ^ b : Nat) : Int) := by
  have h : 2 ^ b < 2 ^ 32 := Nat.pow_lt_pow_right (by omega) hb
  have e : ((2 : Int) ^ b) = ((2 ^ b : Nat) : Int) := by rw [Int.natCast_pow]; rfl
  rw [e]
  generalize 2 ^ b = q at h ⊢
  omega

theorem ret_bool {a b : Bool} (h : a = b) : Ending.returned (.bool a) = .returned (.bool b) := by rw [h]
theorem ret_int {k : IntKind} {a b : Int} (h : a = b) : Ending.returned (.int k a) = .returned (.int k b) := by rw [h]

theorem bit_test (x b : Nat) (hx : x < 4294967296) (hb : b < 32) : (bits .and .u32 (x : Int) ((2 : Int) ^ b % 4294967296) != 0) = x.testBit b := by
  have h : 2 ^ b < 2 ^ 32 := Nat.pow_lt_pow_right (by omega) hb
  rw [pow32 b hb, bits_and_u32_nat x _ hx (by omega)]
  cases hx : x.testBit b
  · have : x &&& 2 ^ b = 0 := by
      apply Nat.eq_of_testBit_eq
      intro i
      rw [Nat.testBit_and, Nat.testBit_two_pow, Nat.zero_testBit]
      by_cases hi : b = i
      · subst hi; simp [hx]
      · simp [hi]
    rw [this]; rfl
  · have : x &&& 2 ^ b ≠ 0 := by
      intro e
      have h1 : (x &&& 2 ^ b).testBit b = true := by rw [Nat.testBit_and, Nat.testBit_two_pow, hx]; simp
      rw [e] at h1; simp at h1
    rw [bne_iff_ne]; omega

set_option maxHeartbeats 400000 in
theorem get_any (p gw i : Nat) (R : List Bool) (w : World) (h : Bits w p gw R) (hi : i < R.length) :
    Calls Tryz.prog 85 #[.pointer (some ⟨p, 0, none⟩), .int .i64 i] w fun e w' => e = .returned (.bool (R.getD i false)) ∧ w = w' := by
  have hs := h.small
  have h0 := h.c0
  have hi1 : i / 32 < (R.length + 31) / 32 := by omega
  have hx := h.cw (i / 32) hi1
  clear h
  go_enter Tryz.func85, Tryz.ntmps85
  go_wp2
  go_ret
  exact ⟨ret_bool (by rw [bit_test _ _ (wordOf_lt _ _) (Nat.mod_lt _ (by omega)), wordOf_at]), rfl⟩

theorem wordCells_set (R : List Bool) (k i : Nat) (hi : i < R.length) (hk : i / 32 < k) :
    (wordCells R k).set (i / 32) (.int .u32 ((wordOf R (i / 32) ||| 2 ^ (i % 32) : Nat) : Int)) = wordCells (R.set i true) k := by
  apply List.ext_getElem?
  intro j
  simp only [wordCells, List.getElem?_set, List.getElem?_map, List.length_map, List.length_range]
  by_cases hj : i / 32 = j
  · subst hj
    simp only [if_true, if_pos hk, List.getElem?_range hk, Option.map_some]
    rw [wordOf_set R i _ hi, if_pos rfl]
  · rw [if_neg hj]
    by_cases hjk : j < k
    · simp only [List.getElem?_range hjk, Option.map_some]
      rw [wordOf_set R i _ hi, if_neg (by omega)]
    · rw [List.getElem?_eq_none (by simp; omega)]; simp

/-- Set. -/
theorem set_any (p gw i : Nat) (R : List Bool) (w : World) (h : Bits w p gw R) (hi : i < R.length) :
    Calls Tryz.prog 32 #[.pointer (some ⟨p, 0, none⟩), .int .i64 i] w fun e w' => e = .returned (.tuple #[]) ∧ Bits w' p gw (R.set i true) ∧ Left' (some gw) w w' := by
  have hB := Lib.hid h
  have hs := h.small
  have h0 := h.c0
  have hi1 : i / 32 < (R.length + 31) / 32 := by omega
  have hx := h.cw (i / 32) hi1
  have hf := h.words.frozen (i / 32)
  clear h
  go_enter Tryz.func32, Tryz.ntmps32
  go_wp2
  go_end0
  refine ⟨rfl, ?_, (Left'.refl _ _).setCell (.inl rfl) _⟩
  have hb : i % 32 < 32 := Nat.mod_lt _ (by omega)
  have hp : 2 ^ (i % 32) < 2 ^ 32 := Nat.pow_lt_pow_right (by omega) hb
  rw [pow32 _ hb, bits_or_u32_nat _ _ (wordOf_lt _ _) (by omega)]
  have hB := hB.out
  refine ⟨?_, ?_, by simpa using hB.small⟩
  · have := hB.head.far (p := ⟨gw, i / 32, none⟩) hB.ne (.int .u32 ((wordOf R (i / 32) ||| 2 ^ (i % 32) : Nat) : Int))
    simpa using this
  · have := hB.words.set (i / 32) (.int .u32 ((wordOf R (i / 32) ||| 2 ^ (i % 32) : Nat) : Int))
    rw [wordCells_set R _ i hi hi1] at this
    simpa using this

theorem info84 : (Tryz.prog.info? 84).map (fun i => (i.zero, i.size, i.bytes)) = some (some (.int .u32 0), 1, 4) := by kernel_rfl

theorem makeArray_any (n : Nat) (w : World) (hn : n ≤ 100000) :
    Calls Tryz.prog 42 #[.int .i64 n] w fun e w' => e = .returned (.slice (some ⟨w.heap.size, 0, none⟩) ((n + 31) / 32) ((n + 31) / 32)) ∧ w' = w.alloc (.cells (reps ((n + 31) / 32) (.int .u32 0)) 84) := by
  have hmk := fun W => run_make_one (P := Tryz.prog) 80 84 (.int .u32 0) 4 Tryz.underlying80 info84 rfl .i64 .i64 (((n : Int) + 31) / 32) (((n : Int) + 31) / 32) ((n + 31) / 32) (by omega) (by omega) (by omega) (by omega) W
  go_enter Tryz.func42, Tryz.ntmps42
  go_wp2
  go_ret
  exact ⟨rfl, rfl⟩

theorem wordOf_blank (n j : Nat) : wordOf (List.replicate n false) j = 0 :=
  packN_zero _ _ fun i _ => by
    simp only [List.getD_eq_getElem?_getD, List.getElem?_replicate]
    split <;> rfl

theorem wordCells_blank (n k : Nat) : wordCells (List.replicate n false) k = List.replicate k (.int .u32 0) := by
  apply List.ext_getElem?
  intro j
  simp only [wordCells, List.getElem?_map, List.getElem?_replicate]
  by_cases h : j < k
  · rw [List.getElem?_range h, if_pos h]; simp [wordOf_blank]
  · rw [List.getElem?_eq_none (by simp; omega), if_neg h]; rfl

/-- NewBitArray. -/
theorem newBitArray_any (n : Nat) (w : World) (hn : n ≤ 100000) :
    Calls Tryz.prog 31 #[.int .i64 n] w fun e w' => e = .returned (.pointer (some ⟨w.heap.size + 1, 0, none⟩)) ∧ Bits w' (w.heap.size + 1) w.heap.size (List.replicate n false) ∧ Left' none w w' := by
  go_enter Tryz.func31, Tryz.ntmps31
  go_wp2_with fail
  refine (makeArray_any n w hn).mono ?_
  rintro e w' ⟨rfl, rfl⟩
  go_wp2
  go_ret
  refine ⟨rfl, ⟨?_, ?_, by simpa using hn⟩, ((Left'.refl w none).alloc _).alloc _⟩
  · have := Whole.new (w.alloc (.cells (reps ((n + 31) / 32) (.int .u32 0)) 84)) 83 [.slice (some ⟨w.heap.size, 0, none⟩) ((n + 31) / 32) ((n + 31) / 32), .int .i64 n]
    simpa using this
  · have := (Whole.reps w 84 ((n + 31) / 32) (.int .u32 0)).alloc (.cells #[.slice (some ⟨w.heap.size, 0, none⟩) ((n + 31) / 32) ((n + 31) / 32), .int .i64 n] 83)
    simpa [wordCells_blank] using this

/-- The table in its variable. -/
def Tab (w : World) : Prop := ∀ j, j < 32 → w.cell? ⟨0, j, none⟩ = some (.int .u8 (Lib.deBruijn32tab.getD j 0))

theorem tz32_key (x a : Nat) (hx : x < 4294967296) (hx0 : x ≠ 0) (hlow : x &&& (4294967296 - x) = a) :
    bits BinOp.and IntKind.u32 (x : Int) (-(x : Int) % 4294967296) * 125613361 % 4294967296 / 134217728 = ((a * 125613361 % 4294967296 / 134217728 : Nat) : Int) := by
  have e1 : -(x : Int) % 4294967296 = ((4294967296 - x : Nat) : Int) := by omega
  rw [e1, bits_and_u32_nat x _ hx (by omega), hlow]
  omega

set_option maxHeartbeats 1000000 in
theorem tz32_core (x k i : Nat) (w : World) (hx0 : ((x : Int) == 0) = false)
    (key : bits BinOp.and IntKind.u32 (x : Int) (-(x : Int) % 4294967296) * 125613361 % 4294967296 / 134217728 = (i : Int))
    (hi : i < 32) (hk : k < 32) (hcell : w.cell? ⟨0, i, none⟩ = some (.int .u8 k)) :
    Calls Tryz.prog 96 #[.int .u32 x] w fun e w' => e = .returned (.int .i64 k) ∧ w = w' := by
  go_enter Tryz.func96, Tryz.ntmps96
  go_wp2_with (simp only [key])
  go_ret
  exact ⟨rfl, rfl⟩

/-- math/bits.TrailingZeros32, x not 0. -/
theorem tz32_any (x : Nat) (w : World) (hx : x < 4294967296) (hx0 : x ≠ 0) (hT : Tab w) :
    Calls Tryz.prog 96 #[.int .u32 x] w fun e w' => e = .returned (.int .i64 (Lib.ctz 32 x)) ∧ w = w' := by
  obtain ⟨hlow, hk⟩ := Lib.lowest_bit 32 x hx0 hx
  obtain ⟨hi, htab⟩ := Lib.deBruijn32_at _ hk
  have hcell := hT _ hi
  rw [htab] at hcell
  exact tz32_core x _ _ w (by simp; omega) (tz32_key x _ hx hx0 hlow) hi hk hcell

end Go.Proofs.YtojngchcghabiaaGreatDoor
