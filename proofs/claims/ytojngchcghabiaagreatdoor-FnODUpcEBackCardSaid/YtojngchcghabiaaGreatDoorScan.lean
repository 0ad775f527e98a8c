/-
  The walks over the methods of BitArray that look for a colour: GetNextSet, GetNextUnset, IsRange.
-/
import Derived.Test.YtojngchcghabiaaGreatDoorBits
namespace Go.Proofs.YtojngchcghabiaaGreatDoor
open Go Go.RowKit

theorem ofInt_i64 (a : Nat) (ha : a < 9223372036854775808) : (BitVec.ofInt 64 (a : Int)).toNat = a := by
  rw [BitVec.ofInt_natCast, BitVec.toNat_ofNat]; exact Nat.mod_eq_of_lt (by omega)
theorem i64_and31 (m : Nat) (h : m ≤ 100000) : bits .and .i64 (m : Int) 31 = ((m % 32 : Nat) : Int) := by
  have e31 : (31 : Int) = ((31 : Nat) : Int) := rfl
  rw [e31]
  show IntKind.i64.wrap ((BitVec.ofInt 64 (m : Int) &&& BitVec.ofInt 64 ((31 : Nat) : Int)).toNat : Int) = _
  rw [BitVec.toNat_and, ofInt_i64 m (by omega), ofInt_i64 31 (by omega), IntKind.wrap_i64]
  have : m &&& 31 = m % 32 := Nat.and_two_pow_sub_one_eq_mod m 5
  rw [this]
  omega

theorem mask_start (R : List Bool) (m : Nat) : bits BinOp.and IntKind.u32 (wordOf R (m / 32) : Int) (-((2 : Int) ^ (m % 32) % 4294967296) % 4294967296) = (wordFrom R m (m / 32) : Int) := by
  have hb : m % 32 < 32 := Nat.mod_lt _ (by omega)
  have hp : 2 ^ (m % 32) < 2 ^ 32 := Nat.pow_lt_pow_right (by omega) hb
  have h0 := Nat.two_pow_pos (m % 32)
  rw [pow32 _ hb]
  have e : -((2 ^ (m % 32) : Nat) : Int) % 4294967296 = ((4294967296 - 2 ^ (m % 32) : Nat) : Int) := by
    generalize 2 ^ (m % 32) = x at hp h0 ⊢
    omega
  rw [e, bits_and_u32_nat _ _ (wordOf_lt _ _) (by omega), wordFrom_mask]

theorem wordFrom_none (R : List Bool) (m q j : Nat) (hj : 32 * j + 32 ≤ q) (hlo : ∀ i, m ≤ i → i < q → R.getD i false = false) : wordFrom R m j = 0 :=
  packN_zero _ _ fun b hb => by
    by_cases h : m ≤ 32 * j + b
    · rw [hlo _ h (by omega)]; simp
    · simp [h]
theorem wordFrom_some (R : List Bool) (m q : Nat) (hmq : m ≤ q) (hq : R.getD q false = true) : wordFrom R m (q / 32) ≠ 0 :=
  packN_ne _ _ (q % 32) (Nat.mod_lt _ (by omega)) (by rw [Nat.div_add_mod, hq]; simp [hmq])
theorem wordFrom_ctz (R : List Bool) (m q : Nat) (hmq : m ≤ q) (hq : R.getD q false = true) (hlo : ∀ i, m ≤ i → i < q → R.getD i false = false) : Lib.ctz 32 (wordFrom R m (q / 32)) = q % 32 := by
  apply ctz_of _ _ (wordFrom_lt _ _ _)
  · unfold wordFrom; rw [packN_testBit, Nat.div_add_mod, hq]; simp [hmq, Nat.mod_lt]
  · intro i hi
    unfold wordFrom; rw [packN_testBit]
    by_cases h : m ≤ 32 * (q / 32) + i
    · rw [hlo _ h (by omega)]; simp
    · simp [h]

set_option maxHeartbeats 400000 in
theorem nextSet_hit (p gw m q : Nat) (R : List Bool) (w : World) (h : Bits w p gw R) (hT : Tab w) (hmq : m ≤ q) (hq : q < R.length) (hq1 : R.getD q false = true) (hlo : ∀ i, m ≤ i → i < q → R.getD i false = false) :
    Calls Tryz.prog 84 #[.pointer (some ⟨p, 0, none⟩), .int .i64 m] w fun e w' => e = .returned (.int .i64 q) ∧ w = w' := by
  have hs := h.small
  have h0 := h.c0
  have h1 := h.c1
  have hm1 : m / 32 < (R.length + 31) / 32 := by omega
  have hx := h.cw (m / 32) hm1
  have hmn : m < R.length := by omega
  have ha := i64_and31 m (by omega)
  have HW := Lib.hid h.cw
  have HQ := Lib.hid hq1
  have HL := Lib.hid hlo
  have HT := Lib.hid hT
  clear hlo hq1 h hT
  go_enter Tryz.func84, Tryz.ntmps84
  go_wp2
  clear ha hx
  go_loop [5, 6] (fun t x => ∃ j : Nat, m / 32 ≤ j ∧ j ≤ q / 32 ∧ t = .int .i64 j ∧ x = .int .u32 (wordFrom R m j)) (fun t _ => q / 32 - (intOf t).toNat)
  case atStart => exact ⟨m / 32, by omega, by omega, by simp, by rw [← mask_start]⟩
  case round =>
    obtain ⟨j, hj1, hj2, rfl, rfl⟩ := hrel
    by_cases hj : j = q / 32
    · subst hj
      have hne : ((wordFrom R m (q / 32) : Int) == 0) = false := by
        have := wordFrom_some R m q hmq HQ.out
        simp; omega
      go_wp2_with fail
      refine (tz32_any _ _ (wordFrom_lt _ _ _) (wordFrom_some R m q hmq HQ.out) HT.out).mono ?_
      rintro e w' ⟨rfl, rfl⟩
      rw [wordFrom_ctz R m q hmq HQ.out HL.out]
      go_wp2
      go_ret
      exact ⟨ret_int (by omega), rfl⟩
    · have hz : wordFrom R m j = 0 := wordFrom_none R m q j (by omega) HL.out
      have hx := HW.out (j + 1) (by omega)
      have he : ((wordFrom R m j : Int) == 0) = true := by rw [hz]; rfl
      clear hz
      go_wp2
      go_round
      case rel => exact ⟨j + 1, by omega, by omega, by go_num, by rw [wordFrom_later R m (j + 1) (by omega)]⟩
      case measure => simp [intOf]; omega

set_option maxHeartbeats 400000 in
theorem nextSet_none (p gw m : Nat) (R : List Bool) (w : World) (h : Bits w p gw R) (hm : m < R.length) (hlo : ∀ i, m ≤ i → R.getD i false = false) :
    Calls Tryz.prog 84 #[.pointer (some ⟨p, 0, none⟩), .int .i64 m] w fun e w' => e = .returned (.int .i64 R.length) ∧ w = w' := by
  have hs := h.small
  have h0 := h.c0
  have h1 := h.c1
  have hm1 : m / 32 < (R.length + 31) / 32 := by omega
  have hx := h.cw (m / 32) hm1
  have ha := i64_and31 m (by omega)
  have HW := Lib.hid h.cw
  have HL := Lib.hid hlo
  clear hlo h
  go_enter Tryz.func84, Tryz.ntmps84
  go_wp2
  clear ha hx
  go_loop [5, 6] (fun t x => ∃ j : Nat, m / 32 ≤ j ∧ j < (R.length + 31) / 32 ∧ t = .int .i64 j ∧ x = .int .u32 (wordFrom R m j)) (fun t _ => (R.length + 31) / 32 - (intOf t).toNat)
  case atStart => exact ⟨m / 32, by omega, by omega, by simp, by rw [← mask_start]⟩
  case round =>
    obtain ⟨j, hj1, hj2, rfl, rfl⟩ := hrel
    have hz : wordFrom R m j = 0 := wordFrom_none R m (32 * j + 32) j (by omega) (fun i h1 _ => HL.out i h1)
    have he : ((wordFrom R m j : Int) == 0) = true := by rw [hz]; rfl
    clear hz
    by_cases hj : j + 1 = (R.length + 31) / 32
    · have hj' : ((j : Int) + 1 == (((R.length + 31) / 32 : Nat) : Int)) = true := by simp; omega
      clear hj
      go_wp2
      go_ret
      exact ⟨rfl, rfl⟩
    · have hx := HW.out (j + 1) (by omega)
      go_wp2
      go_round
      case rel => exact ⟨j + 1, by omega, by omega, by go_num, by rw [wordFrom_later R m (j + 1) (by omega)]⟩
      case measure => simp [intOf]; omega

theorem xor_word (R : List Bool) (j : Nat) : bits BinOp.xor IntKind.u32 IntKind.u32.max (wordOf R j : Int) = (wordNot R j : Int) := by
  have h2 : (BitVec.ofInt 32 (wordOf R j : Int)).toNat = wordOf R j := by
    rw [BitVec.ofInt_natCast, BitVec.toNat_ofNat]; exact Nat.mod_eq_of_lt (wordOf_lt R j)
  have h1 : (BitVec.ofInt 32 IntKind.u32.max).toNat = 2 ^ 32 - 1 := by rfl
  show IntKind.u32.wrap ((BitVec.ofInt 32 IntKind.u32.max ^^^ BitVec.ofInt 32 (wordOf R j : Int)).toNat : Int) = _
  rw [BitVec.toNat_xor, h1, h2, show ∀ n, IntKind.u32.wrap n = n % 4294967296 from fun n => by simp [IntKind.wrap, IntKind.signed, IntKind.bits]]
  have e : (2 ^ 32 - 1) ^^^ wordOf R j = wordNot R j := by
    apply Nat.eq_of_testBit_eq
    intro i
    rw [Nat.testBit_xor, Nat.testBit_two_pow_sub_one]
    unfold wordNot wordOf
    rw [packN_testBit, packN_testBit]
    by_cases hi : i < 32 <;> simp [hi]
  rw [e]
  have := wordNot_lt R j
  omega

theorem mask_start_not (R : List Bool) (m : Nat) : bits BinOp.and IntKind.u32 (wordNot R (m / 32) : Int) (-((2 : Int) ^ (m % 32) % 4294967296) % 4294967296) = (wordNotFrom R m (m / 32) : Int) := by
  have hb : m % 32 < 32 := Nat.mod_lt _ (by omega)
  have hp : 2 ^ (m % 32) < 2 ^ 32 := Nat.pow_lt_pow_right (by omega) hb
  have h0 := Nat.two_pow_pos (m % 32)
  rw [pow32 _ hb]
  have e : -((2 ^ (m % 32) : Nat) : Int) % 4294967296 = ((4294967296 - 2 ^ (m % 32) : Nat) : Int) := by
    generalize 2 ^ (m % 32) = x at hp h0 ⊢
    omega
  rw [e, bits_and_u32_nat _ _ (wordNot_lt _ _) (by omega), wordNotFrom_mask]

theorem wordNotFrom_none (R : List Bool) (m q j : Nat) (hj : 32 * j + 32 ≤ q) (hlo : ∀ i, m ≤ i → i < q → R.getD i false = true) : wordNotFrom R m j = 0 :=
  packN_zero _ _ fun b hb => by
    by_cases h : m ≤ 32 * j + b
    · rw [hlo _ h (by omega)]; simp
    · simp [h]
theorem wordNotFrom_some (R : List Bool) (m q : Nat) (hmq : m ≤ q) (hq : R.getD q false = false) : wordNotFrom R m (q / 32) ≠ 0 :=
  packN_ne _ _ (q % 32) (Nat.mod_lt _ (by omega)) (by rw [Nat.div_add_mod, hq]; simp [hmq])
theorem wordNotFrom_ctz (R : List Bool) (m q : Nat) (hmq : m ≤ q) (hq : R.getD q false = false) (hlo : ∀ i, m ≤ i → i < q → R.getD i false = true) : Lib.ctz 32 (wordNotFrom R m (q / 32)) = q % 32 := by
  apply ctz_of _ _ (wordNotFrom_lt _ _ _)
  · unfold wordNotFrom; rw [packN_testBit, Nat.div_add_mod, hq]; simp [hmq, Nat.mod_lt]
  · intro i hi
    unfold wordNotFrom; rw [packN_testBit]
    by_cases h : m ≤ 32 * (q / 32) + i
    · rw [hlo _ h (by omega)]; simp
    · simp [h]

set_option maxHeartbeats 400000 in
theorem nextUnset_hit (p gw m q : Nat) (R : List Bool) (w : World) (h : Bits w p gw R) (hT : Tab w) (hmq : m ≤ q) (hq : q < R.length) (hq1 : R.getD q false = false) (hlo : ∀ i, m ≤ i → i < q → R.getD i false = true) :
    Calls Tryz.prog 83 #[.pointer (some ⟨p, 0, none⟩), .int .i64 m] w fun e w' => e = .returned (.int .i64 q) ∧ w = w' := by
  have hs := h.small
  have h0 := h.c0
  have h1 := h.c1
  have hm1 : m / 32 < (R.length + 31) / 32 := by omega
  have hx := h.cw (m / 32) hm1
  have hmn : m < R.length := by omega
  have ha := i64_and31 m (by omega)
  have HW := Lib.hid h.cw
  have HQ := Lib.hid hq1
  have HL := Lib.hid hlo
  have HT := Lib.hid hT
  have hxor := xor_word R (m / 32)
  clear hlo hq1 h hT
  go_enter Tryz.func83, Tryz.ntmps83
  go_wp2
  clear ha hx hxor
  go_loop [5, 6] (fun t x => ∃ j : Nat, m / 32 ≤ j ∧ j ≤ q / 32 ∧ t = .int .i64 j ∧ x = .int .u32 (wordNotFrom R m j)) (fun t _ => q / 32 - (intOf t).toNat)
  case atStart => exact ⟨m / 32, by omega, by omega, by simp, by rw [← mask_start_not]⟩
  case round =>
    obtain ⟨j, hj1, hj2, rfl, rfl⟩ := hrel
    by_cases hj : j = q / 32
    · subst hj
      have hne : ((wordNotFrom R m (q / 32) : Int) == 0) = false := by
        have := wordNotFrom_some R m q hmq HQ.out
        simp; omega
      go_wp2_with fail
      refine (tz32_any _ _ (wordNotFrom_lt _ _ _) (wordNotFrom_some R m q hmq HQ.out) HT.out).mono ?_
      rintro e w' ⟨rfl, rfl⟩
      rw [wordNotFrom_ctz R m q hmq HQ.out HL.out]
      go_wp2
      go_ret
      exact ⟨ret_int (by omega), rfl⟩
    · have hz : wordNotFrom R m j = 0 := wordNotFrom_none R m q j (by omega) HL.out
      have hx := HW.out (j + 1) (by omega)
      have hxor := xor_word R (j + 1)
      have he : ((wordNotFrom R m j : Int) == 0) = true := by rw [hz]; rfl
      clear hz
      go_wp2
      go_round
      case rel => exact ⟨j + 1, by omega, by omega, by go_num, by rw [wordNotFrom_later R m (j + 1) (by omega)]⟩
      case measure => simp [intOf]; omega

theorem mask_nat (R : List Bool) (j lo hi : Nat) (hh : hi < 32) (hlh : lo ≤ hi) (h : ∀ b, lo ≤ b → b ≤ hi → R.getD (32 * j + b) false = false) (m : Int) (hm : m = ((2 ^ (hi + 1) - 2 ^ lo : Nat) : Int)) :
    (bits BinOp.and IntKind.u32 (wordOf R j : Int) m != 0) = false := by
  have h1 : 2 ^ (hi + 1) ≤ 2 ^ 32 := Nat.pow_le_pow_right (by omega) (by omega)
  have h2 := Nat.two_pow_pos lo
  rw [hm, bits_and_u32_nat _ _ (wordOf_lt _ _) (by omega), mask_zero R j lo hi hh h hlh]
  rfl

theorem mask_form1 (lo hi : Nat) (hh : hi < 32) (hlh : lo ≤ hi) : (2 * (2 : Int) ^ hi - 2 ^ lo) % 4294967296 = ((2 ^ (hi + 1) - 2 ^ lo : Nat) : Int) := by
  have h1 : 2 ^ (hi + 1) ≤ 2 ^ 32 := Nat.pow_le_pow_right (by omega) (by omega)
  have h2 : 2 ^ lo ≤ 2 ^ hi := Nat.pow_le_pow_right (by omega) hlh
  have h3 := Nat.two_pow_pos lo
  rw [show ((2 : Int) ^ hi) = ((2 ^ hi : Nat) : Int) by rw [Int.natCast_pow]; rfl, show ((2 : Int) ^ lo) = ((2 ^ lo : Nat) : Int) by rw [Int.natCast_pow]; rfl]
  rw [Nat.pow_succ] at h1 ⊢
  generalize 2 ^ hi = x at h1 h2 ⊢
  generalize 2 ^ lo = y at h2 h3 ⊢
  omega
theorem mask_form2 (lo : Nat) (hlo : lo < 32) : -((2 : Int) ^ lo % 4294967296) % 4294967296 = ((2 ^ (31 + 1) - 2 ^ lo : Nat) : Int) := by
  have h2 : 2 ^ lo < 2 ^ 32 := Nat.pow_lt_pow_right (by omega) hlo
  have h3 := Nat.two_pow_pos lo
  rw [pow32 lo hlo]
  generalize 2 ^ lo = y at h2 h3 ⊢
  omega

set_option maxHeartbeats 800000 in
/-- IsRange at what is light. -/
theorem isRange_light (p gw a b : Nat) (R : List Bool) (w : World) (h : Bits w p gw R) (hab : a < b) (hb : b ≤ R.length) (hlo : ∀ i, a ≤ i → i < b → R.getD i false = false) :
    Calls Tryz.prog 57 #[.pointer (some ⟨p, 0, none⟩), .int .i64 a, .int .i64 b, .bool false] w fun e w' => e = .returned (.tuple #[.bool true, .nilIface]) ∧ w = w' := by
  have hs := h.small
  have h0 := h.c0
  have h1 := h.c1
  have HW := Lib.hid h.cw
  have HL := Lib.hid hlo
  clear hlo h
  have hne : ((b : Int) == (a : Int)) = false := by simp; omega
  go_enter Tryz.func57, Tryz.ntmps57
  go_wp2
  go_loop [12] (fun t => ∃ j : Nat, a / 32 ≤ j ∧ j ≤ (b - 1) / 32 + 1 ∧ t = .int .i64 j) (fun t => (b - 1) / 32 + 1 - (intOf t).toNat)
  case atStart => exact ⟨a / 32, by omega, by omega, by simp⟩
  case round =>
    obtain ⟨j, hj1, hj2, rfl⟩ := hrel
    by_cases hj : j = (b - 1) / 32 + 1
    · have hj' : ¬ (j : Int) ≤ ((b : Int) - 1) / 32 := by omega
      clear hj
      go_wp2
      go_ret2
      exact ⟨rfl, rfl⟩
    · have hx := HW.out j (by omega)
      by_cases hA : j = a / 32
      · have hA' : ((j : Int) == (a : Int) / 32) = true := by simp; omega
        by_cases hB : j = (b - 1) / 32
        · have hB' : ((j : Int) == ((b : Int) - 1) / 32) = true := by simp; omega
          have hM := mask_nat R j (a % 32) ((b - 1) % 32) (Nat.mod_lt _ (by omega)) (by omega) (fun i h1 h2 => HL.out _ (by omega) (by omega)) ((2 * (2 : Int) ^ ((b - 1) % 32) - 2 ^ (a % 32)) % 4294967296) (mask_form1 _ _ (Nat.mod_lt _ (by omega)) (by omega))
          clear hA hB
          go_wp2
          go_round
          case rel => exact ⟨j + 1, by omega, by omega, by go_num⟩
          case measure => simp [intOf]; omega
        · have hB' : ((j : Int) == ((b : Int) - 1) / 32) = false := by simp; omega
          have hM := mask_nat R j (a % 32) 31 (by omega) (by omega) (fun i h1 h2 => HL.out _ (by omega) (by omega)) (-((2 : Int) ^ (a % 32) % 4294967296) % 4294967296) (mask_form2 _ (Nat.mod_lt _ (by omega)))
          clear hA hB
          go_wp2
          go_round
          case rel => exact ⟨j + 1, by omega, by omega, by go_num⟩
          case measure => simp [intOf]; omega
      · have hA' : ((j : Int) == (a : Int) / 32) = false := by simp; omega
        by_cases hB : j = (b - 1) / 32
        · have hB' : ((j : Int) == ((b : Int) - 1) / 32) = true := by simp; omega
          have hM := mask_nat R j 0 ((b - 1) % 32) (Nat.mod_lt _ (by omega)) (by omega) (fun i h1 h2 => HL.out _ (by omega) (by omega)) ((2 * (2 : Int) ^ ((b - 1) % 32) - 1) % 4294967296) (mask_form1 0 _ (Nat.mod_lt _ (by omega)) (by omega))
          clear hA hB
          go_wp2
          go_round
          case rel => exact ⟨j + 1, by omega, by omega, by go_num⟩
          case measure => simp [intOf]; omega
        · have hB' : ((j : Int) == ((b : Int) - 1) / 32) = false := by simp; omega
          have hM := mask_nat R j 0 31 (by omega) (by omega) (fun i h1 h2 => HL.out _ (by omega) (by omega)) 4294967295 rfl
          clear hA hB
          go_wp2
          go_round
          case rel => exact ⟨j + 1, by omega, by omega, by go_num⟩
          case measure => simp [intOf]; omega
end Go.Proofs.YtojngchcghabiaaGreatDoor
