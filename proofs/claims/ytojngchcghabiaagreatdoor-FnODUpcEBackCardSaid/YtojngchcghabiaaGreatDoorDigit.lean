/-
  The walk over upceanReader_decodeDigit: where the row goes on in the runs of a digit the best match of the plain facts is answered.
-/
import Derived.Test.YtojngchcghabiaaGreatDoorFind
namespace Go.Proofs.YtojngchcghabiaaGreatDoor
open Go Go.RowKit

theorem best_step {cs p : List Int} {ps : List (List Int)} {i bm d : Int} {bv : Nat} (h : best cs (p :: ps) i bv bm = some d) :
    ∃ v, pmv cs p = some v ∧ (((fOrd v bv == some .lt) = true ∧ best cs ps (i + 1) v i = some d) ∨ ((fOrd v bv == some .lt) = false ∧ best cs ps (i + 1) bv bm = some d)) := by
  unfold best at h
  split at h
  · cases h
  · rename_i v hv
    refine ⟨v, hv, ?_⟩
    by_cases hl : (fOrd v bv == some .lt) = true
    · left; rw [if_pos hl] at h; exact ⟨hl, h⟩
    · right; rw [if_neg hl] at h; exact ⟨by simpa using hl, h⟩

theorem Mat.left {w w' : World} {base g m : Nat} {pats : List (List Int)} {row : Option Nat} (h : Mat w base g m pats) (hL : Left' row w w') (hr : ∀ k, row = some k → k < base) : Mat w' base g m pats := by
  obtain ⟨at_, h1, h2, h3⟩ := h
  exact ⟨at_, h1.left hL (fun e => by have := hr g e; omega), h2, fun i hi => ⟨(h3 i hi).1.left hL (fun e => by have := hr _ e; have := (h3 i hi).2; omega), (h3 i hi).2⟩⟩

set_option maxHeartbeats 2000000 in
/-- upceanReader_decodeDigit, where the row goes on in the runs of a digit. -/
theorem digit_any (p gw gc gm s base : Nat) (d : Int) (c : Bool) (R : List Bool) (cs : List Nat) (old : List Value) (pats : List (List Int)) (w : World)
    (hB : Bits w p gw R) (hC : Whole w gc 3 old) (hol : old.length = 4) (hM : Mat w base gm 4 pats) (hgb : gc < base) (hpl : pats.length ≤ 100)
    (hcl : cs.length = 4) (hpos : ∀ n ∈ cs, 0 < n) (hR : RunsAt R s c cs)
    (hrows : ∀ i, i < pats.length → (pats.getD i []).length = 4 ∧ (pats.getD i []).sum ≤ (cs.map fun (k : Nat) => (k : Int)).sum ∧ ∀ j, 0 ≤ (pats.getD i []).getD j 0 ∧ (pats.getD i []).getD j 0 ≤ 100000)
    (hbest : best (cs.map fun (k : Nat) => (k : Int)) pats 0 maxAvg (-1) = some d) (hd : 0 ≤ d) :
    Calls Tryz.prog 110 #[.pointer (some ⟨p, 0, none⟩), .slice (some ⟨gc, 0, none⟩) 4 4, .int .i64 s, .slice (some ⟨gm, 0, none⟩) pats.length pats.length] w fun e w' => e = .returned (.tuple #[.int .i64 d, .nilIface]) ∧ Whole w' gc 3 (nats cs) ∧ Left' (some gc) w w' := by
  have hs := hB.small
  have hs2 := hR.1
  have H := Lib.hid (And.intro hcl (And.intro hrows hbest))
  have HA := Lib.hid (And.intro hB (And.intro hC (And.intro hol (And.intro hpos hR))))
  have HM := Lib.hid hM
  clear hcl hrows hbest hB hC hol hpos hR hM
  go_enter Tryz.func110, Tryz.ntmps110
  go_wp2_with fail
  obtain ⟨hB, hC, hol, hpos, hR⟩ := HA.out
  refine (record_any p gw gc s R cs c old w hB hC hol H.out.1 hpos hR).mono ?_
  rintro e w1 ⟨rfl, hW, hL⟩
  have HW := Lib.hid hW
  have HL := Lib.hid hL
  have HM1 := Lib.hid (HM.out.left hL (fun k hk => by have : gc = k := by simpa using hk
                                                      omega))
  clear hW hL hB hC hol hpos hR HM
  go_wp2
  go_loop [11, 12, 14] (fun a b i => ∃ (k bv : Nat) (bm : Int), k ≤ pats.length ∧ a = .float .f64 bv ∧ b = .int .i64 bm ∧ i = .int .i64 k ∧ best (cs.map fun (k : Nat) => (k : Int)) (pats.drop k) k bv bm = some d) (fun _ _ i => pats.length - (intOf i).toNat)
  case atStart => exact ⟨0, maxAvg, -1, by omega, rfl, rfl, rfl, H.out.2.2⟩
  case round =>
    obtain ⟨k, bv, bm, hk, rfl, rfl, rfl, hb⟩ := hrel
    by_cases hkl : k < pats.length
    · obtain ⟨at_, hm1, hm2, hm3⟩ := HM1.out
      have hrow := hm3 k hkl
      have hc1 : w1.cell? ⟨gm, k, none⟩ = some (.slice (some ⟨at_ k, 0, none⟩) 4 4) := by rw [hm1.cell]; simp [hkl]
      rw [List.drop_eq_getElem_cons hkl] at hb
      obtain ⟨v, hv, hb2⟩ := best_step hb
      have hge : pats[k] = pats.getD k [] := by simp [hkl]
      rw [hge] at hv
      have hr := H.out.2.1 k hkl
      have HP := Lib.hid (And.intro hrow (And.intro hv hr))
      clear hm1 hm2 hm3 hrow hv hr hge hb
      go_wp2_with fail
      obtain ⟨⟨hr1, hr2⟩, hv, hl4, hsum, hbd⟩ := HP.out
      have hlen : (cs.map fun (k : Nat) => (k : Int)).length = 4 := by rw [List.length_map]; exact H.out.1
      refine (pmv_any gc (at_ k) 4 4 4 (cs.map fun (k : Nat) => (k : Int)) (pats.getD k []) v w1 (by omega) hlen hl4 ?_ ?_ ?_ hbd hv hsum).mono ?_
      · intro j hj
        rw [HW.out.cell, nats_ints, ints_get _ _ (by rw [hlen]; exact hj)]
      · intro j hj
        rw [hr1.cell, ints_get _ _ (by rw [hl4]; exact hj)]
      · intro j
        have h1 : (cs.map fun (k : Nat) => (k : Int)).getD j 0 = (cs.getD j 0 : Nat) := by simp [List.getD_eq_getElem?_getD]; cases cs[j]? <;> simp
        have h2 := getD_le_sum cs j
        rw [h1]; omega
      rintro e w' ⟨rfl, rfl⟩
      clear hr1 hr2 hv hl4 hsum hbd hlen
      rcases hb2 with ⟨hlt, hb2⟩ | ⟨hlt, hb2⟩
      · have HB2 := Lib.hid hb2
        clear hb2
        go_wp2
        go_round
        case rel => exact ⟨k + 1, v, k, by omega, rfl, rfl, by go_num, HB2.out⟩
        case measure => simp [intOf]; omega
      · have HB2 := Lib.hid hb2
        clear hb2
        go_wp2
        go_round
        case rel => exact ⟨k + 1, bv, bm, by omega, rfl, rfl, by go_num, HB2.out⟩
        case measure => simp [intOf]; omega
    · have hk' : k = pats.length := by omega
      subst hk'
      rw [List.drop_length] at hb
      have hbd : bm = d := by simpa [best] using hb
      subst hbd
      clear hb
      go_wp2
      go_ret2
      exact ⟨rfl, HW.out, HL.out⟩
end Go.Proofs.YtojngchcghabiaaGreatDoor
