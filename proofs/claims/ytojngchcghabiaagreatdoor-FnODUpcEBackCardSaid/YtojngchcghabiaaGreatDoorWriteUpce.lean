/- The writer of UPC-E (function 43 at eight digits). -/
import Derived.Test.YtojngchcghabiaaGreatDoorWriteLong
import Derived.Test.YtojngchcghabiaaGreatDoorMidUpce
import Derived.Test.YtojngchcghabiaaGreatDoorConvUpce
namespace Go.Proofs.YtojngchcghabiaaGreatDoor
open Go Go.RowKit

/-- The pattern of the x-th digit behind the first one. -/
def pe (ds : Nat → Nat) (x : Nat) : Nat := if numN (ds 0) (ds 7) / 2 ^ (5 - x) % 2 = 1 then ds (x + 1) + 10 else ds (x + 1)
theorem pe_lt (ds : Nat → Nat) (h : ∀ i, ds i < 10) (x : Nat) : pe ds x < 20 := by
  have := h (x + 1)
  unfold pe; split <;> omega
theorem pe_mod (ds : Nat → Nat) (h : ∀ i, ds i < 10) (x : Nat) : pe ds x % 10 = ds (x + 1) := by
  have := h (x + 1)
  unfold pe; split <;> omega
/-- A mask built of its bits. -/
def mk (m : Nat) : Nat → Nat
  | 0 => 0
  | x + 1 => if m / 2 ^ (5 - x) % 2 = 1 then mk m x ||| 2 ^ (5 - x) else mk m x
theorem mk_six (m : Nat) (h : m < 64) : mk m 6 = m := by
  have : ∀ m : Fin 64, mk m 6 = m := by decide
  exact this ⟨m, h⟩
theorem pe_mask (ds : Nat → Nat) (h : ∀ i, ds i < 10) (h0 : ds 0 < 2) : mask (pe ds) 6 = numN (ds 0) (ds 7) := by
  have e : ∀ x, (10 ≤ pe ds x) ↔ numN (ds 0) (ds 7) / 2 ^ (5 - x) % 2 = 1 := fun x => by
    have := h (x + 1)
    unfold pe; split <;> simp_all <;> omega
  have hk : ∀ x, mask (pe ds) x = mk (numN (ds 0) (ds 7)) x := by
    intro x
    induction x with
    | zero => rfl
    | succ x ih => simp only [mask, mk, e, ih]
  rw [hk, mk_six _ (numN_lt _ _ h0 (h 7))]

/-- The runs of a whole UPC-E symbol. -/
def symE (ds : Nat → Nat) : List Nat := [1, 1, 1] ++ digs (pe ds) 0 6 ++ [1, 1, 1, 1, 1, 1]

theorem wd_check (ds : Nat → Nat) (h : ds 7 = chd (wd ds) 11) : wd ds 11 = chd (wd ds) 11 := by
  rw [← h]
  unfold wd
  rw [List.getD_eq_getElem?_getD, List.getElem?_append_right (by rw [wideL_length]; omega), wideL_length]
  rfl

set_option maxRecDepth 100000 in
set_option maxHeartbeats 4000000 in
theorem writeE_eight (v : Value) (s : ByteArray) (ds : Nat → Nat) (w : World) (h : Says s 8 ds) (h0 : ds 0 < 2) (hc : ds 7 = chd (wd ds) 11) (hv : v = .agg #[]) :
    Calls Tryz.prog 43 #[v, .string s, .map none] w (MakesBools (bars true (symE ds)) w) := by
  subst hv
  have hmk := fun W => run_make_one (P := Tryz.prog) 25 4 (.bool false) 1 Tryz.underlying25 info4 rfl .i64 .i64 51 51 51 rfl rfl (by omega) (by omega) W
  have H := Lib.hid h
  have hsz := h.size
  have hsi : (s.size : Int) = 8 := by omega
  clear h
  have HC := Lib.hid hc
  clear hc
  go_enter Tryz.func43, Tryz.ntmps43
  go_wp2_with fail
  refine (convE_any s ds _ H.out).mono ?_
  rintro e w1 ⟨rfl, hL1⟩
  have HL1 := Lib.hid (((Left'.refl w none).alloc _).trans hL1)
  clear hL1
  go_wp2_with fail
  refine (standardOk_any (textOf (wd ds) 12) 11 (wd ds) _ (textOf_says (wd ds) 12 (wd_lt ds H.out.dig)) (by omega) (by omega) (wd_check ds HC.out)).mono ?_
  rintro e w' ⟨rfl, rfl⟩
  go_wp2_with fail
  refine (numeric_any s 8 ds _ H.out (by omega)).mono ?_
  rintro e w5 ⟨rfl, hL5⟩
  have HL5 := Lib.hid (HL1.out.trans hL5)
  have hxs0 : 0 < s.size := by omega
  have hxs7 : 7 < s.size := by omega
  have hb0 := H.out.byte 0 hxs0
  have hb7 := H.out.byte 7 hxs7
  have hd0 := H.out.dig 0
  have hd7 := H.out.dig 7
  have hb01 : 48 ≤ s[0].toNat := by omega
  have hb02 : s[0].toNat ≤ 57 := by omega
  have hbi0 : (s[0].toNat : Int) - 48 = (ds 0 : Int) := by omega
  have hb71 : 48 ≤ s[7].toNat := by omega
  have hb72 : s[7].toNat ≤ 57 := by omega
  have hbi7 : (s[7].toNat : Int) - 48 = (ds 7 : Int) := by omega
  clear hb0 hb7 hL5 HL1
  have h01 : ds 0 = 0 ∨ ds 0 = 1 := by omega
  rcases h01 with hn | hn
  all_goals
    first | (have hbi : (s[0].toNat : Int) - 48 = 0 := by omega) | (have hbi : (s[0].toNat : Int) - 48 = 1 := by omega)
    clear hbi0
    go_wp2_with fail
    refine (numSys_any w5).mono ?_
    rintro e w1 ⟨gf, rfl, hM, hL6⟩
    obtain ⟨ga, hcf, hcg⟩ := num_cell h0 hd7 hM
    rw [hn] at hcf
    have hL1 := HL5.out.trans hL6
    rw [show numSys.length = 2 from rfl]
    have HM0 := Lib.hid (numN_lt (ds 0) (ds 7) h0 hd7)
    generalize hfe : numN (ds 0) (ds 7) = fm at hcg HM0
    have HFM := Lib.hid hfe
    clear hM hL6 hfe
    go_wp2_with fail
    have hL0 : Left' none w w1 := hL1
    clear hL1
    have HD0 : Hid (Drawn w (w1.alloc (.cells (reps 51 (.bool false)) 4)) w1.heap.size [] 51) := ⟨Whole.reps w1 4 51 (.bool false), hL0.alloc _, hL0.size⟩
    have HS3 : Hid (∀ i, ds i < 20) := fun i => by have := H.out.dig i; omega
    clear hL0 HL5 hbi hbi7 hcf hcg hn
    generalize World.alloc _ _ = w2 at *
    generalize w1.heap.size = g at *
    refine (startEnd_any w2).mono ?_
    rintro e w3 ⟨gp, rfl, hP, hg, hL⟩
    have HD1 := Lib.hid (HD0.out.none hL)
    have HP := Lib.hid hP
    clear hP hg hL HD0
    go_wp2_with fail
    refine (append_more w w3 g gp _ 51 0 _ _ [] [1, 1, 1] true HD1.out HP.out (by decide) (by decide) (by decide) rfl rfl rfl rfl).mono ?_
    rintro e w4 ⟨rfl, hD⟩
    have HD2 := Lib.hid hD
    clear hD HD1 HP
    have esum : (([1, 1, 1] : List Nat).sum : Int) = 3 := rfl
    rw [esum]
    clear esum
    go_wp2
    go_loopw [18, 19] (fun p i wr => ∃ x : Nat, x ≤ 6 ∧ p = .int .i64 (3 + 7 * x : Nat) ∧ i = .int .i64 (1 + x : Nat) ∧ Drawn w wr g ([1, 1, 1] ++ digs (pe ds) 0 x) (48 - 7 * x)) (fun _ i _ => 7 - (intOf i).toNat)
    case atStart => exact ⟨0, by omega, rfl, rfl, HD2.out⟩
    case round =>
      clear HD2
      obtain ⟨x, hx, rfl, rfl, hD⟩ := hrel
      have HD := Lib.hid hD
      clear hD
      by_cases hx4 : x < 6
      · have hxs : 1 + x < s.size := by omega
        have hb := H.out.byte (1 + x) hxs
        have hdx := H.out.dig (1 + x)
        have hb1 : 48 ≤ s[1 + x].toNat := by omega
        have hb2 : s[1 + x].toNat ≤ 57 := by omega
        have hbi : (s[1 + x].toNat : Int) - 48 = (ds (1 + x) : Int) := by omega
        clear hb
        have hfm := HM0.out
        have hpar0 := par_bit x hx4 fm hfm
        have hpe0 : pe ds x = if fm / 2 ^ (5 - x) % 2 = 1 then ds (1 + x) + 10 else ds (1 + x) := by unfold pe; rw [HFM.out, Nat.add_comm 1 x]
        have hpl := pe_lt ds H.out.dig x
        have HS4 := Lib.hid (wid_sum 1 (pe ds x) hpl)
        have HS5 := Lib.hid (wid_length 1 (pe ds x) hpl)
        have HS6 := Lib.hid (digs_sum (pe ds) 0 (pe_lt ds H.out.dig) x)
        have HS7 := Lib.hid (digs_length (pe ds) 0 (pe_lt ds H.out.dig) x)
        have HNX := Lib.hid (show digs (pe ds) 0 (x + 1) = digs (pe ds) 0 x ++ wid 1 (pe ds x) by rw [digs_succ, Nat.zero_add])
        by_cases hbit : fm / 2 ^ (5 - x) % 2 = 1
        all_goals
          first | rw [if_pos hbit] at hpe0 | rw [if_neg hbit] at hpe0
          have hpar : (bits BinOp.and .i64 ((fm : Nat) / (2 : Int) ^ (6 - (1 + x))) 1 == 1) = _ := hpar0
          first | rw [decide_eq_true hbit] at hpar | rw [decide_eq_false hbit] at hpar
          clear hpar0 hbit
          rw [hpe0] at hpl HS4 HS5 HNX
          clear hpe0
          go_wp2_with fail
          refine (lgPats_any wr).mono ?_
          rintro e w5 ⟨gm, rfl, hM, hL⟩
          have HD3 := Lib.hid (HD.out.none hL)
          clear hL
          obtain ⟨at_, hm1, hm2, hm3⟩ := hM
          have hcm := cell_mat hm1 hpl
          have HP := Lib.hid (hm3 _ hpl).1
          clear hm1 hm2 hm3
          rw [lg_nats _ hpl] at HP
          rw [show lgPats.length = 20 from rfl]
          go_wp2_with fail
          refine (append_more w w5 g _ _ (48 - 7 * x) (3 + 7 * x) _ _ _ _ false HD3.out HP.out (by rw [HS4.out]; omega) (by rw [List.sum_append, HS6.out]; simp; omega) (by rw [HS5.out]; omega) (by rw [List.length_append, HS7.out]; exact (hue_odd (by simp; omega)).symm) (by rw [List.sum_append, HS6.out]; rfl) HS5.out.symm (by rw [List.sum_append, HS6.out]; simp; omega)).mono ?_
          rintro e w6 ⟨rfl, hD⟩
          rw [HS4.out] at hD ⊢
          rw [List.append_assoc, ← HNX.out] at hD
          have HD4 := Lib.hid hD
          clear hD HD3 HP HS6 HS7 HS5 HS4 hcm HNX hpar
          go_wp2
          go_roundw
          case rel => exact ⟨x + 1, by omega, by go_num, by go_num, by have := HD4.out; rwa [Nat.sub_sub, ← Nat.mul_succ] at this⟩
          case measure => simp [intOf]; omega
      · have hx4' : x = 6 := by omega
        subst hx4'
        clear hx4 hx
        have e31 : ((3 + 7 * 6 : Nat) : Int) = 45 := rfl
        have e7 : ((1 + 6 : Nat) : Int) = 7 := rfl
        rw [e31, e7]
        clear e31 e7
        go_wp2_with fail
        refine (endPat_any wr).mono ?_
        rintro e w5 ⟨gp, rfl, hP, hg, hL⟩
        have HD3 := Lib.hid (HD.out.none hL)
        have HP := Lib.hid hP
        clear hP hg hL HD
        go_wp2_with fail
        have HS6 := Lib.hid (digs_sum (pe ds) 0 (pe_lt ds H.out.dig) 6)
        have HS7 := Lib.hid (digs_length (pe ds) 0 (pe_lt ds H.out.dig) 6)
        refine (append_more w w5 g gp _ 6 45 _ _ _ [1, 1, 1, 1, 1, 1] false HD3.out HP.out (by decide) (by rw [List.sum_append, HS6.out]; decide) (by decide) (by rw [List.length_append, HS7.out]; rfl) (by rw [List.sum_append, HS6.out]; rfl) rfl (by rw [List.sum_append, HS6.out]; rfl)).mono ?_
        rintro e w6 ⟨rfl, hD⟩
        have HD4 := Lib.hid hD
        clear hD HD3 HP
        go_wp2
        go_ret2
        have hln : (bars true (symE ds)).length = 51 := by
          rw [bars_length]
          unfold symE
          simp only [List.sum_append, HS6.out]
          rfl
        refine ⟨g, ?_, HD4.out.row, HD4.out.new, HD4.out.left⟩
        rw [hln]
        rfl
end Go.Proofs.YtojngchcghabiaaGreatDoor
