/- The spec of a checked EAN-13 text (function 6 at format 7). -/
import Derived.Test.YtojngchcghabiaaGreatDoorSpecEight
namespace Go.Proofs.YtojngchcghabiaaGreatDoor
open Go Go.RowKit

set_option maxHeartbeats 1000000 in
theorem checked13_no (s : ByteArray) (w : World) (h7 : ¬ IsDig s 12) (h8 : ¬ IsDig s 13) (hs : s.size ≤ 2147483647) :
    Calls Tryz.prog 6 #[.int .i64 7, .string s] w fun e w' => e = .returned (.tuple #[.string ⟨#[]⟩, .bool false]) ∧ Left' none w w' := by
  have H7 := Lib.hid h7
  have H8 := Lib.hid h8
  clear h7 h8
  go_enter Tryz.func6, Tryz.ntmps6
  go_wp2_with fail
  refine (digits_no s 12 w H7.out hs (by omega)).mono ?_
  rintro e w1 ⟨rfl, rfl⟩
  go_wp2_with fail
  refine (digits_no s 13 w H8.out hs (by omega)).mono ?_
  rintro e w1 ⟨rfl, rfl⟩
  go_wp2_with fail
  go_ret2
  exact ⟨rfl, .refl _ _⟩

set_option maxHeartbeats 1000000 in
theorem checked13_short (s : ByteArray) (ds : Nat → Nat) (w : World) (h : Says s 12 ds) :
    Calls Tryz.prog 6 #[.int .i64 7, .string s] w fun e w' => e = .returned (.tuple #[.string (textOf ds 12 ++ one (chd ds 12)), .bool true]) ∧ Left' none w w' := by
  have H := Lib.hid h
  have hsz := h.size
  have hd := h.isDig
  have ht : Says (s.extract 0 12) 12 ds := h.take 12 (by omega)
  clear h
  have HD := Lib.hid hd
  have HT := Lib.hid ht
  clear hd ht
  have hsi : (s.size : Int) = 12 := by omega
  go_enter Tryz.func6, Tryz.ntmps6
  go_wp2_with fail
  refine (digits_yes s 12 w HD.out (by omega)).mono ?_
  rintro e w1 ⟨rfl, rfl⟩
  go_wp2_with fail
  refine (odCheck_any _ 12 ds w HT.out (by omega)).mono ?_
  rintro e w1 ⟨rfl, rfl⟩
  go_wp2_with fail
  have hsum : (s.extract 0 12).size + (one (chd ds 12)).size ≤ 9223372036854775807 := by have h1 := HT.out.size; have h2 : (one (chd ds 12)).size = 1 := rfl; omega
  generalize s.extract 0 12 = t at *
  generalize hc : one (chd ds 12) = c at *
  have HC := Lib.hid hc
  clear hc
  go_quiet (fail)
  go_wp2_with fail
  go_ret2
  refine ⟨?_, (Left'.refl _ _).drewN _⟩
  rw [← HC.out, ← textOf_eq HT.out]
  rfl

set_option maxHeartbeats 1000000 in
theorem checked13_long (s : ByteArray) (ds : Nat → Nat) (w : World) (h : Says s 13 ds) :
    Calls Tryz.prog 6 #[.int .i64 7, .string s] w fun e w' => e = .returned (.tuple #[.string (textOf ds 12 ++ one (chd ds 12)), .bool (decide (ds 12 = chd ds 12))]) ∧ Left' none w w' := by
  have H := Lib.hid h
  have hsz := h.size
  have hd := h.isDig
  have ht : Says (s.extract 0 12) 12 ds := h.take 12 (by omega)
  clear h
  have hn : ¬ IsDig s 12 := fun h => by have := h.1; omega
  have HN := Lib.hid hn
  clear hn
  have HD := Lib.hid hd
  have HT := Lib.hid ht
  clear hd ht
  have hsi : (s.size : Int) = 13 := by omega
  go_enter Tryz.func6, Tryz.ntmps6
  go_wp2_with fail
  refine (digits_no s 12 w HN.out (by omega) (by omega)).mono ?_
  rintro e w1 ⟨rfl, rfl⟩
  go_wp2_with fail
  refine (digits_yes s 13 w HD.out (by omega)).mono ?_
  rintro e w1 ⟨rfl, rfl⟩
  go_wp2_with fail
  refine (odCheck_any _ 12 ds w HT.out (by omega)).mono ?_
  rintro e w1 ⟨rfl, rfl⟩
  go_wp2_with fail
  have hsum : (s.extract 0 12).size + (one (chd ds 12)).size ≤ 9223372036854775807 := by have h1 := HT.out.size; have h2 : (one (chd ds 12)).size = 1 := rfl; omega
  generalize s.extract 0 12 = t at *
  generalize hc : one (chd ds 12) = c at *
  have HC := Lib.hid hc
  clear hc
  go_quiet (fail)
  go_wp2_with fail
  have hl : s.extract 12 13 = one (ds 12) := by have := last_text H.out; rwa [hsz] at this
  go_ret2
  refine ⟨?_, (Left'.refl _ _).drewN _⟩
  rw [← HC.out, ← textOf_eq HT.out, hl, one_inj (H.out.dig 12) (chd_lt ds 12)]
  rfl
end Go.Proofs.YtojngchcghabiaaGreatDoor
