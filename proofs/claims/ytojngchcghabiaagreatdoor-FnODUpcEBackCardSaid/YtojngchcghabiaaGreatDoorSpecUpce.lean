/- The spec of a checked UPC-E text: the widened digits (function 16), the check (function 6 at format 15). -/
import Derived.Test.YtojngchcghabiaaGreatDoorConvUpce
namespace Go.Proofs.YtojngchcghabiaaGreatDoor
open Go Go.RowKit

/-- The text of a list of digits. -/
def txL (L : List Nat) : ByteArray := ⟨(L.map fun d => UInt8.ofNat (48 + d)).toArray⟩
theorem txL_append (L M : List Nat) : txL L ++ txL M = txL (L ++ M) := by
  apply ByteArray.ext
  simp [txL]
theorem txL_size (L : List Nat) : (txL L).size = L.length := by simp [txL, ByteArray.size]
theorem textOf_list (ds : Nat → Nat) (n : Nat) (L : List Nat) (h : (List.range n).map ds = L) : textOf ds n = txL L := by
  subst h
  unfold textOf txL
  simp
theorem says_list {s : ByteArray} {n : Nat} {ds : Nat → Nat} (h : Says s n ds) (L : List Nat) (hL : (List.range n).map ds = L) : s = txL L := (textOf_eq h).trans (textOf_list ds n L hL)
theorem wide_text (ds : Nat → Nat) : textOf (wd ds) 11 = txL (wideL ds) := by
  refine textOf_list _ _ _ ?_
  apply List.ext_getElem
  · simp [wideL_length]
  · intro i h1 h2
    simp only [List.getElem_map, List.getElem_range]
    unfold wd
    rw [List.getD_eq_getElem?_getD, List.getElem?_append_left h2, List.getElem?_eq_getElem h2]
    rfl

set_option maxRecDepth 100000 in
set_option maxHeartbeats 4000000 in
/-- ODWide: seven digits of UPC-E widened to eleven. -/
theorem odWide_any (s : ByteArray) (ds : Nat → Nat) (w : World) (h : Says s 7 ds) :
    Calls Tryz.prog 16 #[.string s] w fun e w' => e = .returned (.string (textOf (wd ds) 11)) ∧ Left' none w w' := by
  have hsz := h.size
  have hsi : (s.size : Int) = 7 := by omega
  have HD := Lib.hid (h.part 1 7 (by omega) (by omega))
  have HN := Lib.hid (h.part 0 1 (by omega) (by omega))
  clear h
  go_enter Tryz.func16, Tryz.ntmps16
  go_wp2_with fail
  go_quiet (fail)
  generalize s.extract 0 1 = a at *
  generalize s.extract 1 7 = d at *
  have hds : d.size = 6 := HD.out.size
  have has : a.size = 1 := HN.out.size
  have h5d : 5 < d.size := by omega
  have hc : ds 6 = 0 ∨ ds 6 = 1 ∨ ds 6 = 2 ∨ ds 6 = 3 ∨ ds 6 = 4 ∨ 5 ≤ ds 6 := by omega
  have hd5 : d[5].toNat = 48 + ds 6 := HD.out.byte 5 h5d
  have hd9 : ds 6 < 10 := HD.out.dig 5
  rcases hc with hc | hc | hc | hc | hc | hc
  · have HC := Lib.hid (show ds 6 ≤ 2 by omega)
    have hle : d[5].toNat ≤ 50 := by omega
    clear hc
    go_wp2_with fail
    have e0 : d.extract 0 2 = txL [ds 1, ds 2] := says_list (HD.out.part 0 2 (by omega) (by omega)) _ rfl
    have s0 : (d.extract 0 2).size = 2 := by rw [ByteArray.size_extract]; omega
    have q0 : (a).size + (d.extract 0 2).size ≤ 9223372036854775807 := by rw [s0]; omega
    have a0 := fun W => run_string_add_sum (P := Tryz.prog) W (a) (d.extract 0 2) q0
    have z0 : (a ++ (d.extract 0 2)).size = 3 := by rw [ByteArray.size_append, s0]; omega
    have e1 : d.extract 5 6 = txL [ds 6] := says_list (HD.out.part 5 6 (by omega) (by omega)) _ rfl
    have s1 : (d.extract 5 6).size = 1 := by rw [ByteArray.size_extract]; omega
    have q1 : (a ++ (d.extract 0 2)).size + (d.extract 5 6).size ≤ 9223372036854775807 := by rw [s1]; omega
    have a1 := fun W => run_string_add_sum (P := Tryz.prog) W (a ++ (d.extract 0 2)) (d.extract 5 6) q1
    have z1 : (a ++ (d.extract 0 2) ++ (d.extract 5 6)).size = 4 := by rw [ByteArray.size_append, s1]; omega
    have e2 : (⟨#[48, 48, 48, 48]⟩ : ByteArray) = txL [0, 0, 0, 0] := rfl
    have s2 : (⟨#[48, 48, 48, 48]⟩ : ByteArray).size = 4 := rfl
    have q2 : (a ++ (d.extract 0 2) ++ (d.extract 5 6)).size + (⟨#[48, 48, 48, 48]⟩ : ByteArray).size ≤ 9223372036854775807 := by rw [s2]; omega
    have a2 := fun W => run_string_add_sum (P := Tryz.prog) W (a ++ (d.extract 0 2) ++ (d.extract 5 6)) (⟨#[48, 48, 48, 48]⟩ : ByteArray) q2
    have z2 : (a ++ (d.extract 0 2) ++ (d.extract 5 6) ++ (⟨#[48, 48, 48, 48]⟩ : ByteArray)).size = 8 := by rw [ByteArray.size_append, s2]; omega
    have e3 : d.extract 2 5 = txL [ds 3, ds 4, ds 5] := says_list (HD.out.part 2 5 (by omega) (by omega)) _ rfl
    have s3 : (d.extract 2 5).size = 3 := by rw [ByteArray.size_extract]; omega
    have q3 : (a ++ (d.extract 0 2) ++ (d.extract 5 6) ++ (⟨#[48, 48, 48, 48]⟩ : ByteArray)).size + (d.extract 2 5).size ≤ 9223372036854775807 := by rw [s3]; omega
    have a3 := fun W => run_string_add_sum (P := Tryz.prog) W (a ++ (d.extract 0 2) ++ (d.extract 5 6) ++ (⟨#[48, 48, 48, 48]⟩ : ByteArray)) (d.extract 2 5) q3
    have z3 : (a ++ (d.extract 0 2) ++ (d.extract 5 6) ++ (⟨#[48, 48, 48, 48]⟩ : ByteArray) ++ (d.extract 2 5)).size = 11 := by rw [ByteArray.size_append, s3]; omega
    have HE := Lib.hid (And.intro e0 (And.intro e1 (And.intro e2 (e3))))
    clear e0 q0 e1 q1 e2 q2 e3 q3
    go_quiet (fail)
    go_wp2
    go_ret
    refine ⟨?_, ((Left'.refl w none).drewN _).drewN _⟩
    obtain ⟨e0, ⟨e1, ⟨e2, e3⟩⟩⟩ := HE.out
    rw [says_list HN.out [ds 0] rfl, e0, e1, e2, e3, txL_append, txL_append, txL_append, txL_append, wide_text, wideL_low HC.out]
    rfl
  · have HC := Lib.hid (show ds 6 ≤ 2 by omega)
    have hle : d[5].toNat ≤ 50 := by omega
    clear hc
    go_wp2_with fail
    have e0 : d.extract 0 2 = txL [ds 1, ds 2] := says_list (HD.out.part 0 2 (by omega) (by omega)) _ rfl
    have s0 : (d.extract 0 2).size = 2 := by rw [ByteArray.size_extract]; omega
    have q0 : (a).size + (d.extract 0 2).size ≤ 9223372036854775807 := by rw [s0]; omega
    have a0 := fun W => run_string_add_sum (P := Tryz.prog) W (a) (d.extract 0 2) q0
    have z0 : (a ++ (d.extract 0 2)).size = 3 := by rw [ByteArray.size_append, s0]; omega
    have e1 : d.extract 5 6 = txL [ds 6] := says_list (HD.out.part 5 6 (by omega) (by omega)) _ rfl
    have s1 : (d.extract 5 6).size = 1 := by rw [ByteArray.size_extract]; omega
    have q1 : (a ++ (d.extract 0 2)).size + (d.extract 5 6).size ≤ 9223372036854775807 := by rw [s1]; omega
    have a1 := fun W => run_string_add_sum (P := Tryz.prog) W (a ++ (d.extract 0 2)) (d.extract 5 6) q1
    have z1 : (a ++ (d.extract 0 2) ++ (d.extract 5 6)).size = 4 := by rw [ByteArray.size_append, s1]; omega
    have e2 : (⟨#[48, 48, 48, 48]⟩ : ByteArray) = txL [0, 0, 0, 0] := rfl
    have s2 : (⟨#[48, 48, 48, 48]⟩ : ByteArray).size = 4 := rfl
    have q2 : (a ++ (d.extract 0 2) ++ (d.extract 5 6)).size + (⟨#[48, 48, 48, 48]⟩ : ByteArray).size ≤ 9223372036854775807 := by rw [s2]; omega
    have a2 := fun W => run_string_add_sum (P := Tryz.prog) W (a ++ (d.extract 0 2) ++ (d.extract 5 6)) (⟨#[48, 48, 48, 48]⟩ : ByteArray) q2
    have z2 : (a ++ (d.extract 0 2) ++ (d.extract 5 6) ++ (⟨#[48, 48, 48, 48]⟩ : ByteArray)).size = 8 := by rw [ByteArray.size_append, s2]; omega
    have e3 : d.extract 2 5 = txL [ds 3, ds 4, ds 5] := says_list (HD.out.part 2 5 (by omega) (by omega)) _ rfl
    have s3 : (d.extract 2 5).size = 3 := by rw [ByteArray.size_extract]; omega
    have q3 : (a ++ (d.extract 0 2) ++ (d.extract 5 6) ++ (⟨#[48, 48, 48, 48]⟩ : ByteArray)).size + (d.extract 2 5).size ≤ 9223372036854775807 := by rw [s3]; omega
    have a3 := fun W => run_string_add_sum (P := Tryz.prog) W (a ++ (d.extract 0 2) ++ (d.extract 5 6) ++ (⟨#[48, 48, 48, 48]⟩ : ByteArray)) (d.extract 2 5) q3
    have z3 : (a ++ (d.extract 0 2) ++ (d.extract 5 6) ++ (⟨#[48, 48, 48, 48]⟩ : ByteArray) ++ (d.extract 2 5)).size = 11 := by rw [ByteArray.size_append, s3]; omega
    have HE := Lib.hid (And.intro e0 (And.intro e1 (And.intro e2 (e3))))
    clear e0 q0 e1 q1 e2 q2 e3 q3
    go_quiet (fail)
    go_wp2
    go_ret
    refine ⟨?_, ((Left'.refl w none).drewN _).drewN _⟩
    obtain ⟨e0, ⟨e1, ⟨e2, e3⟩⟩⟩ := HE.out
    rw [says_list HN.out [ds 0] rfl, e0, e1, e2, e3, txL_append, txL_append, txL_append, txL_append, wide_text, wideL_low HC.out]
    rfl
  · have HC := Lib.hid (show ds 6 ≤ 2 by omega)
    have hle : d[5].toNat ≤ 50 := by omega
    clear hc
    go_wp2_with fail
    have e0 : d.extract 0 2 = txL [ds 1, ds 2] := says_list (HD.out.part 0 2 (by omega) (by omega)) _ rfl
    have s0 : (d.extract 0 2).size = 2 := by rw [ByteArray.size_extract]; omega
    have q0 : (a).size + (d.extract 0 2).size ≤ 9223372036854775807 := by rw [s0]; omega
    have a0 := fun W => run_string_add_sum (P := Tryz.prog) W (a) (d.extract 0 2) q0
    have z0 : (a ++ (d.extract 0 2)).size = 3 := by rw [ByteArray.size_append, s0]; omega
    have e1 : d.extract 5 6 = txL [ds 6] := says_list (HD.out.part 5 6 (by omega) (by omega)) _ rfl
    have s1 : (d.extract 5 6).size = 1 := by rw [ByteArray.size_extract]; omega
    have q1 : (a ++ (d.extract 0 2)).size + (d.extract 5 6).size ≤ 9223372036854775807 := by rw [s1]; omega
    have a1 := fun W => run_string_add_sum (P := Tryz.prog) W (a ++ (d.extract 0 2)) (d.extract 5 6) q1
    have z1 : (a ++ (d.extract 0 2) ++ (d.extract 5 6)).size = 4 := by rw [ByteArray.size_append, s1]; omega
    have e2 : (⟨#[48, 48, 48, 48]⟩ : ByteArray) = txL [0, 0, 0, 0] := rfl
    have s2 : (⟨#[48, 48, 48, 48]⟩ : ByteArray).size = 4 := rfl
    have q2 : (a ++ (d.extract 0 2) ++ (d.extract 5 6)).size + (⟨#[48, 48, 48, 48]⟩ : ByteArray).size ≤ 9223372036854775807 := by rw [s2]; omega
    have a2 := fun W => run_string_add_sum (P := Tryz.prog) W (a ++ (d.extract 0 2) ++ (d.extract 5 6)) (⟨#[48, 48, 48, 48]⟩ : ByteArray) q2
    have z2 : (a ++ (d.extract 0 2) ++ (d.extract 5 6) ++ (⟨#[48, 48, 48, 48]⟩ : ByteArray)).size = 8 := by rw [ByteArray.size_append, s2]; omega
    have e3 : d.extract 2 5 = txL [ds 3, ds 4, ds 5] := says_list (HD.out.part 2 5 (by omega) (by omega)) _ rfl
    have s3 : (d.extract 2 5).size = 3 := by rw [ByteArray.size_extract]; omega
    have q3 : (a ++ (d.extract 0 2) ++ (d.extract 5 6) ++ (⟨#[48, 48, 48, 48]⟩ : ByteArray)).size + (d.extract 2 5).size ≤ 9223372036854775807 := by rw [s3]; omega
    have a3 := fun W => run_string_add_sum (P := Tryz.prog) W (a ++ (d.extract 0 2) ++ (d.extract 5 6) ++ (⟨#[48, 48, 48, 48]⟩ : ByteArray)) (d.extract 2 5) q3
    have z3 : (a ++ (d.extract 0 2) ++ (d.extract 5 6) ++ (⟨#[48, 48, 48, 48]⟩ : ByteArray) ++ (d.extract 2 5)).size = 11 := by rw [ByteArray.size_append, s3]; omega
    have HE := Lib.hid (And.intro e0 (And.intro e1 (And.intro e2 (e3))))
    clear e0 q0 e1 q1 e2 q2 e3 q3
    go_quiet (fail)
    go_wp2
    go_ret
    refine ⟨?_, ((Left'.refl w none).drewN _).drewN _⟩
    obtain ⟨e0, ⟨e1, ⟨e2, e3⟩⟩⟩ := HE.out
    rw [says_list HN.out [ds 0] rfl, e0, e1, e2, e3, txL_append, txL_append, txL_append, txL_append, wide_text, wideL_low HC.out]
    rfl
  · have HC := Lib.hid hc
    have hle : 50 < d[5].toNat := by omega
    have h3 : ((d[5].toNat : Int) == 51) = true := by simp; omega
    clear hc
    go_wp2_with fail
    have e0 : d.extract 0 3 = txL [ds 1, ds 2, ds 3] := says_list (HD.out.part 0 3 (by omega) (by omega)) _ rfl
    have s0 : (d.extract 0 3).size = 3 := by rw [ByteArray.size_extract]; omega
    have q0 : (a).size + (d.extract 0 3).size ≤ 9223372036854775807 := by rw [s0]; omega
    have a0 := fun W => run_string_add_sum (P := Tryz.prog) W (a) (d.extract 0 3) q0
    have z0 : (a ++ (d.extract 0 3)).size = 4 := by rw [ByteArray.size_append, s0]; omega
    have e1 : (⟨#[48, 48, 48, 48, 48]⟩ : ByteArray) = txL [0, 0, 0, 0, 0] := rfl
    have s1 : (⟨#[48, 48, 48, 48, 48]⟩ : ByteArray).size = 5 := rfl
    have q1 : (a ++ (d.extract 0 3)).size + (⟨#[48, 48, 48, 48, 48]⟩ : ByteArray).size ≤ 9223372036854775807 := by rw [s1]; omega
    have a1 := fun W => run_string_add_sum (P := Tryz.prog) W (a ++ (d.extract 0 3)) (⟨#[48, 48, 48, 48, 48]⟩ : ByteArray) q1
    have z1 : (a ++ (d.extract 0 3) ++ (⟨#[48, 48, 48, 48, 48]⟩ : ByteArray)).size = 9 := by rw [ByteArray.size_append, s1]; omega
    have e2 : d.extract 3 5 = txL [ds 4, ds 5] := says_list (HD.out.part 3 5 (by omega) (by omega)) _ rfl
    have s2 : (d.extract 3 5).size = 2 := by rw [ByteArray.size_extract]; omega
    have q2 : (a ++ (d.extract 0 3) ++ (⟨#[48, 48, 48, 48, 48]⟩ : ByteArray)).size + (d.extract 3 5).size ≤ 9223372036854775807 := by rw [s2]; omega
    have a2 := fun W => run_string_add_sum (P := Tryz.prog) W (a ++ (d.extract 0 3) ++ (⟨#[48, 48, 48, 48, 48]⟩ : ByteArray)) (d.extract 3 5) q2
    have z2 : (a ++ (d.extract 0 3) ++ (⟨#[48, 48, 48, 48, 48]⟩ : ByteArray) ++ (d.extract 3 5)).size = 11 := by rw [ByteArray.size_append, s2]; omega
    have HE := Lib.hid (And.intro e0 (And.intro e1 (e2)))
    clear e0 q0 e1 q1 e2 q2
    go_quiet (fail)
    go_wp2
    go_ret
    refine ⟨?_, ((Left'.refl w none).drewN _).drewN _⟩
    obtain ⟨e0, ⟨e1, e2⟩⟩ := HE.out
    rw [says_list HN.out [ds 0] rfl, e0, e1, e2, txL_append, txL_append, txL_append, wide_text, wideL_three HC.out]
    rfl
  · have HC := Lib.hid hc
    have hle : 50 < d[5].toNat := by omega
    have h3 : ((d[5].toNat : Int) == 51) = false := by simp; omega
    have h4 : ((d[5].toNat : Int) == 52) = true := by simp; omega
    clear hc
    go_wp2_with fail
    have e0 : d.extract 0 4 = txL [ds 1, ds 2, ds 3, ds 4] := says_list (HD.out.part 0 4 (by omega) (by omega)) _ rfl
    have s0 : (d.extract 0 4).size = 4 := by rw [ByteArray.size_extract]; omega
    have q0 : (a).size + (d.extract 0 4).size ≤ 9223372036854775807 := by rw [s0]; omega
    have a0 := fun W => run_string_add_sum (P := Tryz.prog) W (a) (d.extract 0 4) q0
    have z0 : (a ++ (d.extract 0 4)).size = 5 := by rw [ByteArray.size_append, s0]; omega
    have e1 : (⟨#[48, 48, 48, 48, 48]⟩ : ByteArray) = txL [0, 0, 0, 0, 0] := rfl
    have s1 : (⟨#[48, 48, 48, 48, 48]⟩ : ByteArray).size = 5 := rfl
    have q1 : (a ++ (d.extract 0 4)).size + (⟨#[48, 48, 48, 48, 48]⟩ : ByteArray).size ≤ 9223372036854775807 := by rw [s1]; omega
    have a1 := fun W => run_string_add_sum (P := Tryz.prog) W (a ++ (d.extract 0 4)) (⟨#[48, 48, 48, 48, 48]⟩ : ByteArray) q1
    have z1 : (a ++ (d.extract 0 4) ++ (⟨#[48, 48, 48, 48, 48]⟩ : ByteArray)).size = 10 := by rw [ByteArray.size_append, s1]; omega
    have e2 : d.extract 4 5 = txL [ds 5] := says_list (HD.out.part 4 5 (by omega) (by omega)) _ rfl
    have s2 : (d.extract 4 5).size = 1 := by rw [ByteArray.size_extract]; omega
    have q2 : (a ++ (d.extract 0 4) ++ (⟨#[48, 48, 48, 48, 48]⟩ : ByteArray)).size + (d.extract 4 5).size ≤ 9223372036854775807 := by rw [s2]; omega
    have a2 := fun W => run_string_add_sum (P := Tryz.prog) W (a ++ (d.extract 0 4) ++ (⟨#[48, 48, 48, 48, 48]⟩ : ByteArray)) (d.extract 4 5) q2
    have z2 : (a ++ (d.extract 0 4) ++ (⟨#[48, 48, 48, 48, 48]⟩ : ByteArray) ++ (d.extract 4 5)).size = 11 := by rw [ByteArray.size_append, s2]; omega
    have HE := Lib.hid (And.intro e0 (And.intro e1 (e2)))
    clear e0 q0 e1 q1 e2 q2
    go_quiet (fail)
    go_wp2
    go_ret
    refine ⟨?_, ((Left'.refl w none).drewN _).drewN _⟩
    obtain ⟨e0, ⟨e1, e2⟩⟩ := HE.out
    rw [says_list HN.out [ds 0] rfl, e0, e1, e2, txL_append, txL_append, txL_append, wide_text, wideL_four HC.out]
    rfl
  · have HC := Lib.hid hc
    have hle : 50 < d[5].toNat := by omega
    have h3 : ((d[5].toNat : Int) == 51) = false := by simp; omega
    have h4 : ((d[5].toNat : Int) == 52) = false := by simp; omega
    clear hc
    go_wp2_with fail
    have e0 : d.extract 0 5 = txL [ds 1, ds 2, ds 3, ds 4, ds 5] := says_list (HD.out.part 0 5 (by omega) (by omega)) _ rfl
    have s0 : (d.extract 0 5).size = 5 := by rw [ByteArray.size_extract]; omega
    have q0 : (a).size + (d.extract 0 5).size ≤ 9223372036854775807 := by rw [s0]; omega
    have a0 := fun W => run_string_add_sum (P := Tryz.prog) W (a) (d.extract 0 5) q0
    have z0 : (a ++ (d.extract 0 5)).size = 6 := by rw [ByteArray.size_append, s0]; omega
    have e1 : (⟨#[48, 48, 48, 48]⟩ : ByteArray) = txL [0, 0, 0, 0] := rfl
    have s1 : (⟨#[48, 48, 48, 48]⟩ : ByteArray).size = 4 := rfl
    have q1 : (a ++ (d.extract 0 5)).size + (⟨#[48, 48, 48, 48]⟩ : ByteArray).size ≤ 9223372036854775807 := by rw [s1]; omega
    have a1 := fun W => run_string_add_sum (P := Tryz.prog) W (a ++ (d.extract 0 5)) (⟨#[48, 48, 48, 48]⟩ : ByteArray) q1
    have z1 : (a ++ (d.extract 0 5) ++ (⟨#[48, 48, 48, 48]⟩ : ByteArray)).size = 10 := by rw [ByteArray.size_append, s1]; omega
    have e2 : d.extract 5 6 = txL [ds 6] := says_list (HD.out.part 5 6 (by omega) (by omega)) _ rfl
    have s2 : (d.extract 5 6).size = 1 := by rw [ByteArray.size_extract]; omega
    have q2 : (a ++ (d.extract 0 5) ++ (⟨#[48, 48, 48, 48]⟩ : ByteArray)).size + (d.extract 5 6).size ≤ 9223372036854775807 := by rw [s2]; omega
    have a2 := fun W => run_string_add_sum (P := Tryz.prog) W (a ++ (d.extract 0 5) ++ (⟨#[48, 48, 48, 48]⟩ : ByteArray)) (d.extract 5 6) q2
    have z2 : (a ++ (d.extract 0 5) ++ (⟨#[48, 48, 48, 48]⟩ : ByteArray) ++ (d.extract 5 6)).size = 11 := by rw [ByteArray.size_append, s2]; omega
    have HE := Lib.hid (And.intro e0 (And.intro e1 (e2)))
    clear e0 q0 e1 q1 e2 q2
    go_quiet (fail)
    go_wp2
    go_ret
    refine ⟨?_, ((Left'.refl w none).drewN _).drewN _⟩
    obtain ⟨e0, ⟨e1, e2⟩⟩ := HE.out
    rw [says_list HN.out [ds 0] rfl, e0, e1, e2, txL_append, txL_append, txL_append, wide_text, wideL_high HC.out]
    rfl

set_option maxHeartbeats 1000000 in
theorem checkedE_no (s : ByteArray) (w : World) (h7 : ¬ IsDig s 7) (h8 : ¬ IsDig s 8) (hs : s.size ≤ 2147483647) :
    Calls Tryz.prog 6 #[.int .i64 15, .string s] w fun e w' => e = .returned (.tuple #[.string ⟨#[]⟩, .bool false]) ∧ Left' none w w' := by
  have H7 := Lib.hid h7
  have H8 := Lib.hid h8
  clear h7 h8
  go_enter Tryz.func6, Tryz.ntmps6
  go_wp2_with fail
  refine (digits_no s 7 w H7.out hs (by omega)).mono ?_
  rintro e w1 ⟨rfl, rfl⟩
  go_wp2_with fail
  refine (digits_no s 8 w H8.out hs (by omega)).mono ?_
  rintro e w1 ⟨rfl, rfl⟩
  go_wp2_with fail
  go_ret2
  exact ⟨rfl, .refl _ _⟩

set_option maxHeartbeats 1000000 in
theorem checkedE_seven_big (s : ByteArray) (ds : Nat → Nat) (w : World) (h : Says s 7 ds) (h0 : 2 ≤ ds 0) :
    Calls Tryz.prog 6 #[.int .i64 15, .string s] w fun e w' => e = .returned (.tuple #[.string ⟨#[]⟩, .bool false]) ∧ Left' none w w' := by
  have H := Lib.hid h
  have hsz := h.size
  have hd := h.isDig
  have hxs : 0 < s.size := by omega
  have hb := h.byte 0 hxs
  have hd0 := h.dig 0
  have ht : Says (s.extract 0 7) 7 ds := h.take 7 (by omega)
  clear h
  have HD := Lib.hid hd
  have HT := Lib.hid ht
  clear hd ht
  have hsi : (s.size : Int) = 7 := by omega
  have hb1 : 49 < s[0].toNat := by omega
  clear hb
  go_enter Tryz.func6, Tryz.ntmps6
  go_wp2_with fail
  refine (digits_yes s 7 w HD.out (by omega)).mono ?_
  rintro e w1 ⟨rfl, rfl⟩
  go_wp2_with fail
  go_ret2
  exact ⟨rfl, .refl _ _⟩

set_option maxHeartbeats 1000000 in
theorem checkedE_eight_big (s : ByteArray) (ds : Nat → Nat) (w : World) (h : Says s 8 ds) (h0 : 2 ≤ ds 0) :
    Calls Tryz.prog 6 #[.int .i64 15, .string s] w fun e w' => e = .returned (.tuple #[.string ⟨#[]⟩, .bool false]) ∧ Left' none w w' := by
  have H := Lib.hid h
  have hsz := h.size
  have hd := h.isDig
  have hxs : 0 < s.size := by omega
  have hb := h.byte 0 hxs
  have hd0 := h.dig 0
  have ht : Says (s.extract 0 7) 7 ds := h.take 7 (by omega)
  clear h
  have HD := Lib.hid hd
  have HT := Lib.hid ht
  clear hd ht
  have hsi : (s.size : Int) = 8 := by omega
  have hb1 : 49 < s[0].toNat := by omega
  clear hb
  have hn : ¬ IsDig s 7 := fun h => by have := h.1; omega
  have HN := Lib.hid hn
  clear hn
  go_enter Tryz.func6, Tryz.ntmps6
  go_wp2_with fail
  refine (digits_no s 7 w HN.out (by omega) (by omega)).mono ?_
  rintro e w1 ⟨rfl, rfl⟩
  go_wp2_with fail
  refine (digits_yes s 8 w HD.out (by omega)).mono ?_
  rintro e w1 ⟨rfl, rfl⟩
  go_wp2_with fail
  go_ret2
  exact ⟨rfl, .refl _ _⟩

set_option maxHeartbeats 1000000 in
theorem checkedE_seven (s : ByteArray) (ds : Nat → Nat) (w : World) (h : Says s 7 ds) (h0 : ds 0 < 2) :
    Calls Tryz.prog 6 #[.int .i64 15, .string s] w fun e w' => e = .returned (.tuple #[.string (textOf ds 7 ++ one (chd (wd ds) 11)), .bool true]) ∧ Left' none w w' := by
  have H := Lib.hid h
  have hsz := h.size
  have hd := h.isDig
  have hxs : 0 < s.size := by omega
  have hb := h.byte 0 hxs
  have hd0 := h.dig 0
  have ht : Says (s.extract 0 7) 7 ds := h.take 7 (by omega)
  clear h
  have HD := Lib.hid hd
  have HT := Lib.hid ht
  clear hd ht
  have hsi : (s.size : Int) = 7 := by omega
  have hb1 : s[0].toNat ≤ 49 := by omega
  clear hb
  go_enter Tryz.func6, Tryz.ntmps6
  go_wp2_with fail
  refine (digits_yes s 7 w HD.out (by omega)).mono ?_
  rintro e w1 ⟨rfl, rfl⟩
  go_wp2_with fail
  refine (odCheck_any _ 7 ds w HT.out (by omega)).mono ?_
  rintro e w1 ⟨rfl, rfl⟩
  go_wp2_with fail
  refine (odWide_any _ ds w HT.out).mono ?_
  rintro e w1 ⟨rfl, hL1⟩
  have HL1 := Lib.hid hL1
  clear hL1
  go_wp2_with fail
  refine (odCheck_any _ 11 (wd ds) w1 (textOf_says (wd ds) 11 (wd_lt ds H.out.dig)) (by omega)).mono ?_
  rintro e w' ⟨rfl, rfl⟩
  go_wp2_with fail
  have hsum : (s.extract 0 7).size + (one (chd (wd ds) 11)).size ≤ 9223372036854775807 := by have h1 := HT.out.size; have h2 : (one (chd (wd ds) 11)).size = 1 := rfl; omega
  generalize s.extract 0 7 = t at *
  generalize hc : one (chd (wd ds) 11) = c at *
  have HC := Lib.hid hc
  clear hc
  go_quiet (fail)
  go_wp2_with fail
  go_ret2
  refine ⟨?_, HL1.out.drewN _⟩
  rw [← HC.out, ← textOf_eq HT.out]
  rfl

set_option maxHeartbeats 1000000 in
theorem checkedE_eight (s : ByteArray) (ds : Nat → Nat) (w : World) (h : Says s 8 ds) (h0 : ds 0 < 2) :
    Calls Tryz.prog 6 #[.int .i64 15, .string s] w fun e w' => e = .returned (.tuple #[.string (textOf ds 7 ++ one (chd (wd ds) 11)), .bool (decide (ds 7 = chd (wd ds) 11))]) ∧ Left' none w w' := by
  have H := Lib.hid h
  have hsz := h.size
  have hd := h.isDig
  have hxs : 0 < s.size := by omega
  have hb := h.byte 0 hxs
  have hd0 := h.dig 0
  have ht : Says (s.extract 0 7) 7 ds := h.take 7 (by omega)
  clear h
  have HD := Lib.hid hd
  have HT := Lib.hid ht
  clear hd ht
  have hsi : (s.size : Int) = 8 := by omega
  have hb1 : s[0].toNat ≤ 49 := by omega
  clear hb
  have hn : ¬ IsDig s 7 := fun h => by have := h.1; omega
  have HN := Lib.hid hn
  clear hn
  go_enter Tryz.func6, Tryz.ntmps6
  go_wp2_with fail
  refine (digits_no s 7 w HN.out (by omega) (by omega)).mono ?_
  rintro e w1 ⟨rfl, rfl⟩
  go_wp2_with fail
  refine (digits_yes s 8 w HD.out (by omega)).mono ?_
  rintro e w1 ⟨rfl, rfl⟩
  go_wp2_with fail
  refine (odCheck_any _ 7 ds w HT.out (by omega)).mono ?_
  rintro e w1 ⟨rfl, rfl⟩
  go_wp2_with fail
  refine (odWide_any _ ds w HT.out).mono ?_
  rintro e w1 ⟨rfl, hL1⟩
  have HL1 := Lib.hid hL1
  clear hL1
  go_wp2_with fail
  refine (odCheck_any _ 11 (wd ds) w1 (textOf_says (wd ds) 11 (wd_lt ds H.out.dig)) (by omega)).mono ?_
  rintro e w' ⟨rfl, rfl⟩
  go_wp2_with fail
  have hsum : (s.extract 0 7).size + (one (chd (wd ds) 11)).size ≤ 9223372036854775807 := by have h1 := HT.out.size; have h2 : (one (chd (wd ds) 11)).size = 1 := rfl; omega
  generalize s.extract 0 7 = t at *
  generalize hc : one (chd (wd ds) 11) = c at *
  have HC := Lib.hid hc
  clear hc
  go_quiet (fail)
  go_wp2_with fail
  have hl : s.extract 7 8 = one (ds 7) := by have := last_text H.out; rwa [hsz] at this
  go_ret2
  refine ⟨?_, HL1.out.drewN _⟩
  rw [← HC.out, ← textOf_eq HT.out, hl, one_inj (H.out.dig 7) (chd_lt (wd ds) 11)]
  rfl

end Go.Proofs.YtojngchcghabiaaGreatDoor
