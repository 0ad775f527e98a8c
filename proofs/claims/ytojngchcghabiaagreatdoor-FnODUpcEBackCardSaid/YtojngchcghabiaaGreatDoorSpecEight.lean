/- The spec of a checked EAN-8 text (function 6). -/
import Derived.Test.YtojngchcghabiaaGreatDoorSpec
import Derived.BigQuiet
import Derived.Deep.QuietTactic
namespace Go.Proofs.YtojngchcghabiaaGreatDoor
open Go Go.RowKit

set_option maxHeartbeats 1000000 in
theorem checked8_no (s : ByteArray) (w : World) (h7 : ¬ IsDig s 7) (h8 : ¬ IsDig s 8) (hs : s.size ≤ 2147483647) :
    Calls Tryz.prog 6 #[.int .i64 6, .string s] w fun e w' => e = .returned (.tuple #[.string ⟨#[]⟩, .bool false]) ∧ Left' none w w' := by
  have H7 := Lib.hid h7
  have H8 := Lib.hid h8
  clear h7 h8
  go_enter Tryz.func6, Tryz.ntmps6
  go_wp2_with fail
  refine (digits_no s 7 w H7.out hs (by omega)).mono ?_
  rintro e w1 ⟨rfl, rfl⟩
  go_wp2_with fail
  refine (digits_no s 8 w H8.out hs (by omega)).mono ?_
  rintro e w1 ⟨rfl, rfl⟩
  go_wp2_with fail
  go_ret2
  exact ⟨rfl, .refl _ _⟩

theorem textOf_eq {s : ByteArray} {n : Nat} {ds : Nat → Nat} (h : Says s n ds) : s = textOf ds n := by
  have h2 := textOf_says ds n h.dig
  apply ByteArray.ext
  apply Array.ext
  · exact h.size.trans h2.size.symm
  · intro i hi hi2
    have e1 := h.byte i hi
    have e2 := h2.byte i hi2
    exact UInt8.toNat_inj.mp (e1.trans e2.symm)
theorem textOf_snoc (ds : Nat → Nat) (n : Nat) : textOf ds (n + 1) = textOf ds n ++ one (ds n) := by
  apply ByteArray.ext
  simp [textOf, one, List.range_succ]
theorem textOf_congr {ds ds' : Nat → Nat} {n : Nat} (h : ∀ i, i < n → ds i = ds' i) : textOf ds n = textOf ds' n := by
  unfold textOf
  congr 2
  exact List.map_congr_left fun i hi => by rw [h i (List.mem_range.mp hi)]
theorem Says.take {s : ByteArray} {n : Nat} {ds : Nat → Nat} (h : Says s n ds) (k : Nat) (hk : k ≤ n) : Says (s.extract 0 k) k ds := by
  have hsz := h.size
  refine ⟨by rw [ByteArray.size_extract]; omega, fun i hi => ?_, h.dig⟩
  have hi' : i < k := by rw [ByteArray.size_extract] at hi; omega
  have e : (s.extract 0 k)[i] = s[i] := by simp [ByteArray.getElem_extract]
  rw [e]
  exact h.byte i (by omega)
theorem last_text {s : ByteArray} {n : Nat} {ds : Nat → Nat} (h : Says s (n + 1) ds) : s.extract n s.size = one (ds n) := by
  have hsz := h.size
  have hb := h.byte n (by omega)
  apply ByteArray.ext
  apply Array.ext
  · show (s.extract n s.size).size = 1
    rw [ByteArray.size_extract]; omega
  · intro i hi hi2
    have h0 : i = 0 := by have : i < 1 := hi2; omega
    subst h0
    have e : (s.extract n s.size)[0] = s[n] := by simp [ByteArray.getElem_extract]
    show (s.extract n s.size)[0] = UInt8.ofNat (48 + ds n)
    rw [e, ← hb, UInt8.ofNat_toNat]
theorem one_inj {a b : Nat} (ha : a < 10) (hb : b < 10) : ((one a).toList == (one b).toList) = decide (a = b) := by
  rw [ByteArray.toList_eq, ByteArray.toList_eq]
  have : ∀ a b : Fin 10, ((one a).data.toList == (one b).data.toList) = decide (a.val = b.val) := by decide
  exact this ⟨a, ha⟩ ⟨b, hb⟩
theorem chd_lt (ds : Nat → Nat) (n : Nat) : chd ds n < 10 := Nat.mod_lt _ (by omega)
/-- The digits with the check digit behind the first n. -/
def more (ds : Nat → Nat) (n : Nat) (i : Nat) : Nat := if i < n then ds i else chd ds n
theorem more_text (ds : Nat → Nat) (n : Nat) : textOf (more ds n) (n + 1) = textOf ds n ++ one (chd ds n) := by
  rw [textOf_snoc, textOf_congr (ds' := ds) fun i hi => by simp [more, hi]]
  simp [more]

set_option maxHeartbeats 1000000 in
theorem checked8_seven (s : ByteArray) (ds : Nat → Nat) (w : World) (h : Says s 7 ds) :
    Calls Tryz.prog 6 #[.int .i64 6, .string s] w fun e w' => e = .returned (.tuple #[.string (textOf ds 7 ++ one (chd ds 7)), .bool true]) ∧ Left' none w w' := by
  have H := Lib.hid h
  have hsz := h.size
  have hd := h.isDig
  have ht : Says (s.extract 0 7) 7 ds := h.take 7 (by omega)
  clear h
  have HD := Lib.hid hd
  have HT := Lib.hid ht
  clear hd ht
  have hsi : (s.size : Int) = 7 := by omega
  go_enter Tryz.func6, Tryz.ntmps6
  go_wp2_with fail
  refine (digits_yes s 7 w HD.out (by omega)).mono ?_
  rintro e w1 ⟨rfl, rfl⟩
  go_wp2_with fail
  refine (odCheck_any _ 7 ds w HT.out (by omega)).mono ?_
  rintro e w1 ⟨rfl, rfl⟩
  go_wp2_with fail
  have hsum : (s.extract 0 7).size + (one (chd ds 7)).size ≤ 9223372036854775807 := by have h1 := HT.out.size; have h2 : (one (chd ds 7)).size = 1 := rfl; omega
  generalize s.extract 0 7 = t at *
  generalize hc : one (chd ds 7) = c at *
  have HC := Lib.hid hc
  clear hc
  go_quiet (fail)
  go_wp2_with fail
  go_ret2
  refine ⟨?_, (Left'.refl _ _).drewN _⟩
  rw [← HC.out, ← textOf_eq HT.out]
  rfl

set_option maxHeartbeats 1000000 in
theorem checked8_eight (s : ByteArray) (ds : Nat → Nat) (w : World) (h : Says s 8 ds) :
    Calls Tryz.prog 6 #[.int .i64 6, .string s] w fun e w' => e = .returned (.tuple #[.string (textOf ds 7 ++ one (chd ds 7)), .bool (decide (ds 7 = chd ds 7))]) ∧ Left' none w w' := by
  have H := Lib.hid h
  have hsz := h.size
  have hd := h.isDig
  have ht : Says (s.extract 0 7) 7 ds := h.take 7 (by omega)
  clear h
  have hn : ¬ IsDig s 7 := fun h => by have := h.1; omega
  have HN := Lib.hid hn
  clear hn
  have HD := Lib.hid hd
  have HT := Lib.hid ht
  clear hd ht
  have hsi : (s.size : Int) = 8 := by omega
  go_enter Tryz.func6, Tryz.ntmps6
  go_wp2_with fail
  refine (digits_no s 7 w HN.out (by omega) (by omega)).mono ?_
  rintro e w1 ⟨rfl, rfl⟩
  go_wp2_with fail
  refine (digits_yes s 8 w HD.out (by omega)).mono ?_
  rintro e w1 ⟨rfl, rfl⟩
  go_wp2_with fail
  refine (odCheck_any _ 7 ds w HT.out (by omega)).mono ?_
  rintro e w1 ⟨rfl, rfl⟩
  go_wp2_with fail
  have hsum : (s.extract 0 7).size + (one (chd ds 7)).size ≤ 9223372036854775807 := by have h1 := HT.out.size; have h2 : (one (chd ds 7)).size = 1 := rfl; omega
  generalize s.extract 0 7 = t at *
  generalize hc : one (chd ds 7) = c at *
  have HC := Lib.hid hc
  clear hc
  go_quiet (fail)
  go_wp2_with fail
  have hl : s.extract 7 8 = one (ds 7) := by have := last_text H.out; rwa [hsz] at this
  go_ret2
  refine ⟨?_, (Left'.refl _ _).drewN _⟩
  rw [← HC.out, ← textOf_eq HT.out, hl, one_inj (H.out.dig 7) (chd_lt ds 7)]
  rfl
end Go.Proofs.YtojngchcghabiaaGreatDoor
