/-
  The walks over array and said.
-/
import Derived.Test.YtojngchcghabiaaGreatDoorReaders
namespace Go.Proofs.YtojngchcghabiaaGreatDoor
open Go Go.RowKit

/-- The first k places of a row, light ones behind them. -/
def upto (R : List Bool) (k : Nat) : List Bool := R.take k ++ List.replicate (R.length - k) false
theorem upto_length (R : List Bool) (k : Nat) (hk : k ≤ R.length) : (upto R k).length = R.length := by simp [upto]; omega
theorem upto_zero (R : List Bool) : upto R 0 = List.replicate R.length false := by simp [upto]
theorem upto_all (R : List Bool) : upto R R.length = R := by simp [upto]
theorem upto_get (R : List Bool) (k i : Nat) (hi : i < R.length) : (upto R k)[i]? = some (if i < k then R.getD i false else false) := by
  unfold upto
  by_cases h : i < k
  · rw [List.getElem?_append_left (by simp; omega), List.getElem?_take, if_pos h, if_pos h]
    simp [hi]
  · rw [List.getElem?_append_right (by simp; omega), if_neg h, List.getElem?_replicate, if_pos (by simp; omega)]
theorem upto_light (R : List Bool) (k : Nat) (hk : k < R.length) (h : R.getD k false = false) : upto R (k + 1) = upto R k := by
  apply List.ext_getElem?
  intro i
  by_cases hi : i < R.length
  · rw [upto_get _ _ _ hi, upto_get _ _ _ hi]
    by_cases h1 : i < k
    · rw [if_pos h1, if_pos (by omega)]
    · by_cases h2 : i = k
      · subst h2; rw [if_pos (by omega), if_neg h1, h]
      · rw [if_neg (by omega), if_neg h1]
  · rw [List.getElem?_eq_none (by rw [upto_length _ _ (by omega)]; omega), List.getElem?_eq_none (by rw [upto_length _ _ (by omega)]; omega)]
theorem upto_dark (R : List Bool) (k : Nat) (hk : k < R.length) (h : R.getD k false = true) : upto R (k + 1) = (upto R k).set k true := by
  apply List.ext_getElem?
  intro i
  by_cases hi : i < R.length
  · rw [List.getElem?_set, upto_get _ _ _ hi, upto_get _ _ _ hi]
    by_cases h2 : k = i
    · subst h2; rw [if_pos (by omega), if_pos rfl, if_pos (by rw [upto_length _ _ (by omega)]; omega), h]
    · rw [if_neg h2]
      by_cases h1 : i < k
      · rw [if_pos h1, if_pos (by omega)]
      · rw [if_neg (by omega), if_neg h1]
  · rw [List.getElem?_eq_none (by rw [upto_length _ _ (by omega)]; omega), List.getElem?_eq_none (by simp; rw [upto_length _ _ (by omega)]; omega)]

set_option maxHeartbeats 1000000 in
/-- array: a BitArray of a row. -/
theorem array_any (gr cap : Nat) (R : List Bool) (w : World) (hR : ∀ i, i < R.length → w.cell? ⟨gr, i, none⟩ = some (.bool (R.getD i false))) (hn : R.length ≤ 100000) (hgr : gr < w.heap.size) :
    Calls Tryz.prog 21 #[.slice (some ⟨gr, 0, none⟩) R.length cap] w fun e w' => ∃ p gw, e = .returned (.pointer (some ⟨p, 0, none⟩)) ∧ Bits w' p gw R ∧ w.heap.size ≤ p ∧ w.heap.size ≤ gw ∧ Left' none w w' := by
  have HR := Lib.hid hR
  clear hR
  go_enter Tryz.func21, Tryz.ntmps21
  go_wp2_with fail
  refine (newBitArray_any R.length w hn).mono ?_
  rintro e w1 ⟨rfl, hB, hL⟩
  rw [← upto_zero] at hB
  have H := Lib.hid (And.intro hB hL)
  clear hB hL
  go_wp2
  obtain ⟨p, hp⟩ : ∃ p, p = w.heap.size + 1 := ⟨_, rfl⟩
  obtain ⟨gw, hgw⟩ : ∃ gw, gw = w.heap.size := ⟨_, rfl⟩
  rw [← hp] at H ⊢
  have H2 : Hid (Bits w1 p gw (upto R 0) ∧ Left' none w w1) := by rw [hgw]; exact H
  have hp2 : w.heap.size ≤ p := by omega
  have hgw2 : w.heap.size ≤ gw := by omega
  clear H hp hgw
  go_loopw [11] (fun i wr => ∃ k : Nat, k ≤ R.length ∧ i = .int .i64 k ∧ Bits wr p gw (upto R k) ∧ Left' none w wr) (fun i _ => R.length - (intOf i).toNat)
  case atStart => exact ⟨0, by omega, rfl, H2.out.1, H2.out.2⟩
  case round =>
    clear H2
    obtain ⟨k, hk, rfl, hB, hL⟩ := hrel
    by_cases hkn : k < R.length
    · have hc := HR.out k hkn
      rw [← hL.cell (p := ⟨gr, k, none⟩) hgr (by simp)] at hc
      have HB := Lib.hid hB
      have HL := Lib.hid hL
      clear hB hL
      cases hb : R.getD k false
      · rw [hb] at hc
        have HU := Lib.hid (upto_light R k hkn hb)
        clear hb
        go_wp2
        go_roundw
        case rel => exact ⟨k + 1, by omega, by go_num, by rw [HU.out]; exact HB.out, HL.out⟩
        case measure => simp [intOf]; omega
      · rw [hb] at hc
        have HU := Lib.hid (upto_dark R k hkn hb)
        clear hb
        go_wp2_with fail
        refine (set_any p gw k (upto R k) wr HB.out (by rw [upto_length _ _ hk]; exact hkn)).mono ?_
        rintro e w2 ⟨rfl, hB2, hL2⟩
        have HF := Lib.hid (And.intro hB2 (HL.out.ownOne hL2 (.inr hgw2)))
        clear hB2 hL2
        go_wp2
        go_roundw
        case rel => exact ⟨k + 1, by omega, by go_num, by rw [HU.out]; exact HF.out.1, HF.out.2⟩
        case measure => simp [intOf]; omega
    · have hk' : k = R.length := by omega
      rw [hk', upto_all] at hB
      have HF := Lib.hid (And.intro hB hL)
      clear hB hL hk'
      go_wp2
      go_ret
      exact ⟨p, gw, rfl, HF.out.1, hp2, hgw2, HF.out.2⟩

/-- said: the text of a result. -/
theorem said_any (pr gp : Nat) (s : ByteArray) (f : Int) (mp : Value) (w : World) (hR : Res w pr s gp f mp) :
    Calls Tryz.prog 19 #[.pointer (some ⟨pr, 0, none⟩), .nilIface] w fun e w' => e = .returned (.tuple #[.string s, .bool true]) ∧ w = w' := by
  have H := Lib.hid hR
  clear hR
  go_enter Tryz.func19, Tryz.ntmps19
  go_wp2_with fail
  refine (text_any pr gp s f mp w H.out).mono ?_
  rintro e w' ⟨rfl, rfl⟩
  go_wp2
  go_ret2
  exact ⟨rfl, rfl⟩
end Go.Proofs.YtojngchcghabiaaGreatDoor
