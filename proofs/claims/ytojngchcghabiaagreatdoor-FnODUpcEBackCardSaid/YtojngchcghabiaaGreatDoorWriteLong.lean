/- The writer of EAN-13 (function 44). -/
import Derived.Test.YtojngchcghabiaaGreatDoorWriteEight
import Derived.Test.YtojngchcghabiaaGreatDoorMidLong
namespace Go.Proofs.YtojngchcghabiaaGreatDoor
open Go Go.RowKit

/-- The pattern of the x-th digit behind the first one. -/
def pz (ds : Nat → Nat) (x : Nat) : Nat := if firstNat.getD (ds 0) 0 / 2 ^ (5 - x) % 2 = 1 then ds (x + 1) + 10 else ds (x + 1)
theorem pz_lt (ds : Nat → Nat) (h : ∀ i, ds i < 10) (x : Nat) : pz ds x < 20 := by
  have := h (x + 1)
  unfold pz; split <;> omega
theorem pz_mod (ds : Nat → Nat) (h : ∀ i, ds i < 10) (x : Nat) : pz ds x % 10 = ds (x + 1) := by
  have := h (x + 1)
  unfold pz; split <;> omega
theorem pz_mask (ds : Nat → Nat) (h : ∀ i, ds i < 10) : mask (pz ds) 6 = firstNat.getD (ds 0) 0 := by
  have e : ∀ x, (10 ≤ pz ds x) ↔ firstNat.getD (ds 0) 0 / 2 ^ (5 - x) % 2 = 1 := fun x => by
    have := h (x + 1)
    unfold pz; split <;> simp_all <;> omega
  have h0 := h 0
  simp only [mask, e]
  generalize ds 0 = d at h0
  have : d = 0 ∨ d = 1 ∨ d = 2 ∨ d = 3 ∨ d = 4 ∨ d = 5 ∨ d = 6 ∨ d = 7 ∨ d = 8 ∨ d = 9 := by omega
  rcases this with rfl | rfl | rfl | rfl | rfl | rfl | rfl | rfl | rfl | rfl <;> rfl
theorem lg_nats (d : Nat) (hd : d < 20) : ints (lgPats.getD d []) = nats (wid 1 d) := by
  have h : ∀ d : Fin 20, (lgPats.getD d []) = (wid 1 d).map fun (n : Nat) => (n : Int) := by decide
  rw [h ⟨d, hd⟩]
  simp [ints, nats]

/-- The runs of a whole EAN-13 symbol. -/
def sym13 (ds : Nat → Nat) : List Nat := [1, 1, 1] ++ digs (pz ds) 0 6 ++ [1, 1, 1, 1, 1] ++ digs ds 7 6 ++ [1, 1, 1]


theorem cell_mat {w : World} {g n k : Nat} {at_ : Nat → Nat} (h : Whole w g 54 ((List.range n).map fun i => .slice (some ⟨at_ i, 0, none⟩) 4 4)) (hk : k < n) : w.cell? ⟨g, k, none⟩ = some (.slice (some ⟨at_ k, 0, none⟩) 4 4) := by
  rw [h.cell k, List.getElem?_map, List.getElem?_range hk]
  rfl
theorem par_bit (x : Nat) (hx : x < 6) (m : Nat) (hm : m < 64) : (bits BinOp.and .i64 ((m : Nat) / (2 : Int) ^ (6 - (1 + x))) 1 == 1) = decide (m / 2 ^ (5 - x) % 2 = 1) := by
  have : ∀ x : Fin 6, ∀ m : Fin 64, (bits BinOp.and .i64 (((m : Nat) : Int) / (2 : Int) ^ (6 - (1 + (x : Nat)))) 1 == 1) = decide ((m : Nat) / 2 ^ (5 - (x : Nat)) % 2 = 1) := by decide
  exact this ⟨x, hx⟩ ⟨m, hm⟩

set_option maxRecDepth 100000 in
set_option maxHeartbeats 4000000 in
theorem write13_long (v : Value) (s : ByteArray) (ds : Nat → Nat) (w : World) (h : Says s 13 ds) (hc : ds 12 = chd ds 12) (hv : v = .agg #[]) :
    Calls Tryz.prog 44 #[v, .string s, .map none] w (MakesBools (bars true (sym13 ds)) w) := by
  subst hv
  have hmk := fun W => run_make_one (P := Tryz.prog) 25 4 (.bool false) 1 Tryz.underlying25 info4 rfl .i64 .i64 95 95 95 rfl rfl (by omega) (by omega) W
  have H := Lib.hid h
  have hsz := h.size
  have hsi : (s.size : Int) = 13 := by omega
  clear h
  have HC := Lib.hid hc
  clear hc
  go_enter Tryz.func44, Tryz.ntmps44
  go_wp2_with fail
  refine (standardOk_any s 12 ds _ H.out (by omega) (by omega) HC.out).mono ?_
  rintro e w1 ⟨rfl, rfl⟩
  go_wp2_with fail
  refine (numeric_any s 13 ds _ H.out (by omega)).mono ?_
  rintro e w5 ⟨rfl, hL5⟩
  have hxs0 : 0 < s.size := by omega
  have hb0 := H.out.byte 0 hxs0
  have hd0 := H.out.dig 0
  have hb01 : 48 ≤ s[0].toNat := by omega
  have hb02 : s[0].toNat ≤ 57 := by omega
  have hbi0 : (s[0].toNat : Int) - 48 = (ds 0 : Int) := by omega
  clear hb0
  go_wp2_with fail
  refine (firstEnc_any w5).mono ?_
  rintro e w1 ⟨gf, rfl, hW, hgf, hL6⟩
  have hL1 := hL5.trans hL6
  rw [first_nats] at hW
  have hcf := hW.cell (ds 0)
  rw [nats_get _ _ (show ds 0 < firstNat.length from hd0)] at hcf
  rw [show firstEnc.length = 10 from rfl]
  have HM0 := Lib.hid (show firstNat.getD (ds 0) 0 < 64 by
    have h : ∀ d : Fin 10, firstNat.getD d 0 < 64 := by decide
    exact h ⟨ds 0, hd0⟩)
  generalize hfe : firstNat.getD (ds 0) 0 = fm at hcf HM0
  have HFM := Lib.hid hfe
  clear hW hgf hL5 hL6 hfe
  go_wp2_with fail
  have hL0 : Left' none w w1 := ((Left'.refl _ _).alloc _).trans hL1
  clear hL1
  have HD0 : Hid (Drawn w (w1.alloc (.cells (reps 95 (.bool false)) 4)) w1.heap.size [] 95) := ⟨Whole.reps w1 4 95 (.bool false), hL0.alloc _, hL0.size⟩
  have HS3 : Hid (∀ i, ds i < 20) := fun i => by have := H.out.dig i; omega
  clear hL0
  generalize World.alloc _ _ = w2 at *
  generalize w1.heap.size = g at *
  refine (startEnd_any w2).mono ?_
  rintro e w3 ⟨gp, rfl, hP, hg, hL⟩
  have HD1 := Lib.hid (HD0.out.none hL)
  have HP := Lib.hid hP
  clear hP hg hL HD0
  go_wp2_with fail
  refine (append_more w w3 g gp _ 95 0 _ _ [] [1, 1, 1] true HD1.out HP.out (by decide) (by decide) (by decide) rfl rfl rfl rfl).mono ?_
  rintro e w4 ⟨rfl, hD⟩
  have HD2 := Lib.hid hD
  clear hD HD1 HP
  have esum : (([1, 1, 1] : List Nat).sum : Int) = 3 := rfl
  rw [esum]
  clear esum
  go_wp2
  go_loopw [17, 18] (fun p i wr => ∃ x : Nat, x ≤ 6 ∧ p = .int .i64 (3 + 7 * x : Nat) ∧ i = .int .i64 (1 + x : Nat) ∧ Drawn w wr g ([1, 1, 1] ++ digs (pz ds) 0 x) (92 - 7 * x)) (fun _ i _ => 7 - (intOf i).toNat)
  case atStart => exact ⟨0, by omega, rfl, rfl, HD2.out⟩
  case round =>
    clear HD2
    obtain ⟨x, hx, rfl, rfl, hD⟩ := hrel
    have HD := Lib.hid hD
    clear hD
    by_cases hx4 : x < 6
    · have hxs : 1 + x < s.size := by omega
      have hb := H.out.byte (1 + x) hxs
      have hdx := H.out.dig (1 + x)
      have hb1 : 48 ≤ s[1 + x].toNat := by omega
      have hb2 : s[1 + x].toNat ≤ 57 := by omega
      have hbi : (s[1 + x].toNat : Int) - 48 = (ds (1 + x) : Int) := by omega
      clear hb
      have hfm := HM0.out
      have hpar0 := par_bit x hx4 fm hfm
      have hpz0 : pz ds x = if fm / 2 ^ (5 - x) % 2 = 1 then ds (1 + x) + 10 else ds (1 + x) := by unfold pz; rw [HFM.out, Nat.add_comm 1 x]
      have hpl := pz_lt ds H.out.dig x
      have HS4 := Lib.hid (wid_sum 1 (pz ds x) hpl)
      have HS5 := Lib.hid (wid_length 1 (pz ds x) hpl)
      have HS6 := Lib.hid (digs_sum (pz ds) 0 (pz_lt ds H.out.dig) x)
      have HS7 := Lib.hid (digs_length (pz ds) 0 (pz_lt ds H.out.dig) x)
      have HNX := Lib.hid (show digs (pz ds) 0 (x + 1) = digs (pz ds) 0 x ++ wid 1 (pz ds x) by rw [digs_succ, Nat.zero_add])
      by_cases hbit : fm / 2 ^ (5 - x) % 2 = 1
      all_goals
        first | rw [if_pos hbit] at hpz0 | rw [if_neg hbit] at hpz0
        have hpar : (bits BinOp.and .i64 ((fm : Nat) / (2 : Int) ^ (6 - (1 + x))) 1 == 1) = _ := hpar0
        first | rw [decide_eq_true hbit] at hpar | rw [decide_eq_false hbit] at hpar
        clear hpar0 hbit
        rw [hpz0] at hpl HS4 HS5 HNX
        clear hpz0
        go_wp2_with fail
        refine (lgPats_any wr).mono ?_
        rintro e w5 ⟨gm, rfl, hM, hL⟩
        have HD3 := Lib.hid (HD.out.none hL)
        clear hL
        obtain ⟨at_, hm1, hm2, hm3⟩ := hM
        have hcm := cell_mat hm1 hpl
        have HP := Lib.hid (hm3 _ hpl).1
        clear hm1 hm2 hm3
        rw [lg_nats _ hpl] at HP
        rw [show lgPats.length = 20 from rfl]
        go_wp2_with fail
        refine (append_more w w5 g _ _ (92 - 7 * x) (3 + 7 * x) _ _ _ _ false HD3.out HP.out (by rw [HS4.out]; omega) (by rw [List.sum_append, HS6.out]; simp; omega) (by rw [HS5.out]; omega) (by rw [List.length_append, HS7.out]; exact (hue_odd (by simp; omega)).symm) (by rw [List.sum_append, HS6.out]; rfl) HS5.out.symm (by rw [List.sum_append, HS6.out]; simp; omega)).mono ?_
        rintro e w6 ⟨rfl, hD⟩
        rw [HS4.out] at hD ⊢
        rw [List.append_assoc, ← HNX.out] at hD
        have HD4 := Lib.hid hD
        clear hD HD3 HP HS6 HS7 HS5 HS4 hcm HNX hpar
        go_wp2
        go_roundw
        case rel => exact ⟨x + 1, by omega, by go_num, by go_num, by have := HD4.out; rwa [Nat.sub_sub, ← Nat.mul_succ] at this⟩
        case measure => simp [intOf]; omega
    · have hx4' : x = 6 := by omega
      subst hx4'
      clear hx4 hx
      have e31 : ((3 + 7 * 6 : Nat) : Int) = 45 := rfl
      have e7 : ((1 + 6 : Nat) : Int) = 7 := rfl
      rw [e31, e7]
      clear e31 e7
      go_wp2_with fail
      refine (middle_any wr).mono ?_
      rintro e w5 ⟨gp, rfl, hP, hg, hL⟩
      have HD3 := Lib.hid (HD.out.none hL)
      have HP := Lib.hid hP
      clear hP hg hL HD
      go_wp2_with fail
      have HS6 := Lib.hid (digs_sum (pz ds) 0 (pz_lt ds H.out.dig) 6)
      have HS7 := Lib.hid (digs_length (pz ds) 0 (pz_lt ds H.out.dig) 6)
      refine (append_more w w5 g gp _ 50 45 _ _ _ [1, 1, 1, 1, 1] false HD3.out HP.out (by decide) (by rw [List.sum_append, HS6.out]; decide) (by decide) (by rw [List.length_append, HS7.out]; rfl) (by rw [List.sum_append, HS6.out]; rfl) rfl (by rw [List.sum_append, HS6.out]; rfl)).mono ?_
      rintro e w6 ⟨rfl, hD⟩
      have esum : (([1, 1, 1, 1, 1] : List Nat).sum : Int) = 5 := rfl
      rw [esum]
      clear esum
      have HD4 := Lib.hid hD
      clear hD HD3 HP
      go_wp2
      go_loopw [17, 20] (fun p i wr => ∃ x : Nat, x ≤ 6 ∧ p = .int .i64 (50 + 7 * x : Nat) ∧ i = .int .i64 (7 + x : Nat) ∧ Drawn w wr g ([1, 1, 1] ++ digs (pz ds) 0 6 ++ [1, 1, 1, 1, 1] ++ digs ds 7 x) (45 - 7 * x)) (fun _ i _ => 13 - (intOf i).toNat)
      case atStart => exact ⟨0, by omega, rfl, rfl, by have := HD4.out; simpa [digs_zero] using this⟩
      case round =>
        clear HD4
        obtain ⟨x, hx, rfl, rfl, hD⟩ := hrel
        have HD := Lib.hid hD
        clear hD
        by_cases hx4 : x < 6
        · have hxs : 7 + x < s.size := by omega
          have hb := H.out.byte (7 + x) hxs
          have hdx := H.out.dig (7 + x)
          have hb1 : 48 ≤ s[7 + x].toNat := by omega
          have hb2 : s[7 + x].toNat ≤ 57 := by omega
          have hbi : (s[7 + x].toNat : Int) - 48 = (ds (7 + x) : Int) := by omega
          clear hb
          go_wp2_with fail
          refine (lPats_any wr).mono ?_
          rintro e w5 ⟨gm, rfl, hM, hL⟩
          have HD3 := Lib.hid (HD.out.none hL)
          clear hL HD
          obtain ⟨at_, hm1, hm2, hm3⟩ := hM
          have hcm : w5.cell? ⟨gm, ds (7 + x), none⟩ = some (.slice (some ⟨at_ (ds (7 + x)), 0, none⟩) 4 4) := by
            have hcm := hm1.cell (ds (7 + x))
            rw [List.getElem?_map, List.getElem?_range (show ds (7 + x) < lPats.length from hdx)] at hcm
            exact hcm
          have HP := Lib.hid (hm3 (ds (7 + x)) hdx).1
          clear hm1 hm2 hm3
          rw [l_nats _ hdx] at HP
          have HS4 := Lib.hid (wid_sum 1 (ds (7 + x)) (by omega))
          have HS5 := Lib.hid (wid_length 1 (ds (7 + x)) (by omega))
          have HS8 := Lib.hid (digs_sum ds 7 HS3.out x)
          have HS9 := Lib.hid (digs_length ds 7 HS3.out x)
          generalize at_ (ds (7 + x)) = gp at *
          clear at_
          rw [show lPats.length = 10 from rfl]
          have HE := Lib.hid (digs_succ ds 7 x)
          generalize ds (7 + x) = d at *
          go_wp2_with fail
          refine (append_more w w5 g gp _ (45 - 7 * x) (50 + 7 * x) _ _ _ (wid 1 d) true HD3.out HP.out (by rw [HS4.out]; omega) (by simp only [List.sum_append, HS6.out, HS8.out]; simp; omega) (by rw [HS5.out]; omega) (by simp only [List.length_append, HS7.out, HS9.out]; exact (hue_even (by simp; omega)).symm) (by simp only [List.sum_append, HS6.out, HS8.out]; rfl) HS5.out.symm (by simp only [List.sum_append, HS6.out, HS8.out]; simp; omega)).mono ?_
          rintro e w6 ⟨rfl, hD⟩
          rw [HS4.out] at hD ⊢
          rw [List.append_assoc, ← HE.out] at hD
          have HD4 := Lib.hid hD
          clear hD HD3 HP HS5 HS4 hcm HE HS8 HS9
          go_wp2
          go_roundw
          case rel => exact ⟨x + 1, by omega, by go_num, by go_num, by have := HD4.out; rwa [Nat.sub_sub, ← Nat.mul_succ] at this⟩
          case measure => simp [intOf]; omega
        · have hx4' : x = 6 := by omega
          subst hx4'
          clear hx4 hx
          have e64 : ((50 + 7 * 6 : Nat) : Int) = 92 := rfl
          have e8 : ((7 + 6 : Nat) : Int) = 13 := rfl
          rw [e64, e8]
          clear e64 e8
          go_wp2_with fail
          refine (startEnd_any wr).mono ?_
          rintro e w5 ⟨gp, rfl, hP, hg, hL⟩
          have HD3 := Lib.hid (HD.out.none hL)
          have HP := Lib.hid hP
          clear hP hg hL HD
          go_wp2_with fail
          have HS8 := Lib.hid (digs_sum ds 7 HS3.out 6)
          have HS9 := Lib.hid (digs_length ds 7 HS3.out 6)
          refine (append_more w w5 g gp _ 3 92 _ _ _ [1, 1, 1] true HD3.out HP.out (by decide) (by simp only [List.sum_append, HS6.out, HS8.out]; decide) (by decide) (by simp only [List.length_append, HS7.out, HS9.out]; rfl) (by simp only [List.sum_append, HS6.out, HS8.out]; rfl) rfl (by simp only [List.sum_append, HS6.out, HS8.out]; rfl)).mono ?_
          rintro e w6 ⟨rfl, hD⟩
          have HD4 := Lib.hid hD
          clear hD HD3 HP
          go_wp2
          go_ret2
          have hln : (bars true (sym13 ds)).length = 95 := by
            rw [bars_length]
            unfold sym13
            simp only [List.sum_append, HS6.out, HS8.out]
            rfl
          refine ⟨g, ?_, HD4.out.row, HD4.out.new, HD4.out.left⟩
          rw [hln]
          rfl

set_option maxRecDepth 100000 in
set_option maxHeartbeats 4000000 in
theorem write13_short (v : Value) (s : ByteArray) (ds : Nat → Nat) (w : World) (h : Says s 12 ds) (hv : v = .agg #[]) :
    Calls Tryz.prog 44 #[v, .string s, .map none] w (MakesBools (bars true (sym13 (more ds 12))) w) := by
  subst hv
  have hmk := fun W => run_make_one (P := Tryz.prog) 25 4 (.bool false) 1 Tryz.underlying25 info4 rfl .i64 .i64 95 95 95 rfl rfl (by omega) (by omega) W
  have H0 := Lib.hid h
  have hsz := h.size
  have hsi : (s.size : Int) = 12 := by omega
  clear h
  have HM := Lib.hid (more_says H0.out)
  go_enter Tryz.func44, Tryz.ntmps44
  go_wp2_with fail
  refine (standard_any s 12 ds _ H0.out (by omega) (by omega)).mono ?_
  rintro e w1 ⟨rfl, rfl⟩
  go_wp2_with fail
  refine (itoa_any (chd ds 12) _ (chd_lt ds 12)).mono ?_
  rintro e w1 ⟨rfl, rfl⟩
  have hsum : s.size + (one (chd ds 12)).size ≤ 9223372036854775807 := by have h2 : (one (chd ds 12)).size = 1 := rfl; omega
  generalize one (chd ds 12) = c at *
  generalize more ds 12 = ds' at *
  have hadd := fun W => run_string_add_sum (P := Tryz.prog) W s c hsum
  clear hsum
  generalize hs : s ++ c = s' at *
  clear hs
  go_wp2_with fail
  refine (numeric_any s' 13 ds' _ HM.out (by omega)).mono ?_
  clear H0
  have H := HM
  clear HM hadd hsi hsz
  have hsz := H.out.size
  have hsi : (s'.size : Int) = 13 := by omega
  rintro e w5 ⟨rfl, hL5⟩
  have hxs0 : 0 < s'.size := by omega
  have hb0 := H.out.byte 0 hxs0
  have hd0 := H.out.dig 0
  have hb01 : 48 ≤ s'[0].toNat := by omega
  have hb02 : s'[0].toNat ≤ 57 := by omega
  have hbi0 : (s'[0].toNat : Int) - 48 = (ds' 0 : Int) := by omega
  clear hb0
  go_wp2_with fail
  refine (firstEnc_any w5).mono ?_
  rintro e w1 ⟨gf, rfl, hW, hgf, hL6⟩
  have hL1 := hL5.trans hL6
  rw [first_nats] at hW
  have hcf := hW.cell (ds' 0)
  rw [nats_get _ _ (show ds' 0 < firstNat.length from hd0)] at hcf
  rw [show firstEnc.length = 10 from rfl]
  have HM0 := Lib.hid (show firstNat.getD (ds' 0) 0 < 64 by
    have h : ∀ d : Fin 10, firstNat.getD d 0 < 64 := by decide
    exact h ⟨ds' 0, hd0⟩)
  generalize hfe : firstNat.getD (ds' 0) 0 = fm at hcf HM0
  have HFM := Lib.hid hfe
  clear hW hgf hL5 hL6 hfe
  go_wp2_with fail
  have hL0 : Left' none w w1 := ((Left'.refl _ _).alloc _).trans hL1
  clear hL1
  have HD0 : Hid (Drawn w (w1.alloc (.cells (reps 95 (.bool false)) 4)) w1.heap.size [] 95) := ⟨Whole.reps w1 4 95 (.bool false), hL0.alloc _, hL0.size⟩
  have HS3 : Hid (∀ i, ds' i < 20) := fun i => by have := H.out.dig i; omega
  clear hL0
  generalize World.alloc _ _ = w2 at *
  generalize w1.heap.size = g at *
  refine (startEnd_any w2).mono ?_
  rintro e w3 ⟨gp, rfl, hP, hg, hL⟩
  have HD1 := Lib.hid (HD0.out.none hL)
  have HP := Lib.hid hP
  clear hP hg hL HD0
  go_wp2_with fail
  refine (append_more w w3 g gp _ 95 0 _ _ [] [1, 1, 1] true HD1.out HP.out (by decide) (by decide) (by decide) rfl rfl rfl rfl).mono ?_
  rintro e w4 ⟨rfl, hD⟩
  have HD2 := Lib.hid hD
  clear hD HD1 HP
  have esum : (([1, 1, 1] : List Nat).sum : Int) = 3 := rfl
  rw [esum]
  clear esum
  go_wp2
  go_loopw [17, 18] (fun p i wr => ∃ x : Nat, x ≤ 6 ∧ p = .int .i64 (3 + 7 * x : Nat) ∧ i = .int .i64 (1 + x : Nat) ∧ Drawn w wr g ([1, 1, 1] ++ digs (pz ds') 0 x) (92 - 7 * x)) (fun _ i _ => 7 - (intOf i).toNat)
  case atStart => exact ⟨0, by omega, rfl, rfl, HD2.out⟩
  case round =>
    clear HD2
    obtain ⟨x, hx, rfl, rfl, hD⟩ := hrel
    have HD := Lib.hid hD
    clear hD
    by_cases hx4 : x < 6
    · have hxs : 1 + x < s'.size := by omega
      have hb := H.out.byte (1 + x) hxs
      have hdx := H.out.dig (1 + x)
      have hb1 : 48 ≤ s'[1 + x].toNat := by omega
      have hb2 : s'[1 + x].toNat ≤ 57 := by omega
      have hbi : (s'[1 + x].toNat : Int) - 48 = (ds' (1 + x) : Int) := by omega
      clear hb
      have hfm := HM0.out
      have hpar0 := par_bit x hx4 fm hfm
      have hpz0 : pz ds' x = if fm / 2 ^ (5 - x) % 2 = 1 then ds' (1 + x) + 10 else ds' (1 + x) := by unfold pz; rw [HFM.out, Nat.add_comm 1 x]
      have hpl := pz_lt ds' H.out.dig x
      have HS4 := Lib.hid (wid_sum 1 (pz ds' x) hpl)
      have HS5 := Lib.hid (wid_length 1 (pz ds' x) hpl)
      have HS6 := Lib.hid (digs_sum (pz ds') 0 (pz_lt ds' H.out.dig) x)
      have HS7 := Lib.hid (digs_length (pz ds') 0 (pz_lt ds' H.out.dig) x)
      have HNX := Lib.hid (show digs (pz ds') 0 (x + 1) = digs (pz ds') 0 x ++ wid 1 (pz ds' x) by rw [digs_succ, Nat.zero_add])
      by_cases hbit : fm / 2 ^ (5 - x) % 2 = 1
      all_goals
        first | rw [if_pos hbit] at hpz0 | rw [if_neg hbit] at hpz0
        have hpar : (bits BinOp.and .i64 ((fm : Nat) / (2 : Int) ^ (6 - (1 + x))) 1 == 1) = _ := hpar0
        first | rw [decide_eq_true hbit] at hpar | rw [decide_eq_false hbit] at hpar
        clear hpar0 hbit
        rw [hpz0] at hpl HS4 HS5 HNX
        clear hpz0
        go_wp2_with fail
        refine (lgPats_any wr).mono ?_
        rintro e w5 ⟨gm, rfl, hM, hL⟩
        have HD3 := Lib.hid (HD.out.none hL)
        clear hL
        obtain ⟨at_, hm1, hm2, hm3⟩ := hM
        have hcm := cell_mat hm1 hpl
        have HP := Lib.hid (hm3 _ hpl).1
        clear hm1 hm2 hm3
        rw [lg_nats _ hpl] at HP
        rw [show lgPats.length = 20 from rfl]
        go_wp2_with fail
        refine (append_more w w5 g _ _ (92 - 7 * x) (3 + 7 * x) _ _ _ _ false HD3.out HP.out (by rw [HS4.out]; omega) (by rw [List.sum_append, HS6.out]; simp; omega) (by rw [HS5.out]; omega) (by rw [List.length_append, HS7.out]; exact (hue_odd (by simp; omega)).symm) (by rw [List.sum_append, HS6.out]; rfl) HS5.out.symm (by rw [List.sum_append, HS6.out]; simp; omega)).mono ?_
        rintro e w6 ⟨rfl, hD⟩
        rw [HS4.out] at hD ⊢
        rw [List.append_assoc, ← HNX.out] at hD
        have HD4 := Lib.hid hD
        clear hD HD3 HP HS6 HS7 HS5 HS4 hcm HNX hpar
        go_wp2
        go_roundw
        case rel => exact ⟨x + 1, by omega, by go_num, by go_num, by have := HD4.out; rwa [Nat.sub_sub, ← Nat.mul_succ] at this⟩
        case measure => simp [intOf]; omega
    · have hx4' : x = 6 := by omega
      subst hx4'
      clear hx4 hx
      have e31 : ((3 + 7 * 6 : Nat) : Int) = 45 := rfl
      have e7 : ((1 + 6 : Nat) : Int) = 7 := rfl
      rw [e31, e7]
      clear e31 e7
      go_wp2_with fail
      refine (middle_any wr).mono ?_
      rintro e w5 ⟨gp, rfl, hP, hg, hL⟩
      have HD3 := Lib.hid (HD.out.none hL)
      have HP := Lib.hid hP
      clear hP hg hL HD
      go_wp2_with fail
      have HS6 := Lib.hid (digs_sum (pz ds') 0 (pz_lt ds' H.out.dig) 6)
      have HS7 := Lib.hid (digs_length (pz ds') 0 (pz_lt ds' H.out.dig) 6)
      refine (append_more w w5 g gp _ 50 45 _ _ _ [1, 1, 1, 1, 1] false HD3.out HP.out (by decide) (by rw [List.sum_append, HS6.out]; decide) (by decide) (by rw [List.length_append, HS7.out]; rfl) (by rw [List.sum_append, HS6.out]; rfl) rfl (by rw [List.sum_append, HS6.out]; rfl)).mono ?_
      rintro e w6 ⟨rfl, hD⟩
      have esum : (([1, 1, 1, 1, 1] : List Nat).sum : Int) = 5 := rfl
      rw [esum]
      clear esum
      have HD4 := Lib.hid hD
      clear hD HD3 HP
      go_wp2
      go_loopw [17, 20] (fun p i wr => ∃ x : Nat, x ≤ 6 ∧ p = .int .i64 (50 + 7 * x : Nat) ∧ i = .int .i64 (7 + x : Nat) ∧ Drawn w wr g ([1, 1, 1] ++ digs (pz ds') 0 6 ++ [1, 1, 1, 1, 1] ++ digs ds' 7 x) (45 - 7 * x)) (fun _ i _ => 13 - (intOf i).toNat)
      case atStart => exact ⟨0, by omega, rfl, rfl, by have := HD4.out; simpa [digs_zero] using this⟩
      case round =>
        clear HD4
        obtain ⟨x, hx, rfl, rfl, hD⟩ := hrel
        have HD := Lib.hid hD
        clear hD
        by_cases hx4 : x < 6
        · have hxs : 7 + x < s'.size := by omega
          have hb := H.out.byte (7 + x) hxs
          have hdx := H.out.dig (7 + x)
          have hb1 : 48 ≤ s'[7 + x].toNat := by omega
          have hb2 : s'[7 + x].toNat ≤ 57 := by omega
          have hbi : (s'[7 + x].toNat : Int) - 48 = (ds' (7 + x) : Int) := by omega
          clear hb
          go_wp2_with fail
          refine (lPats_any wr).mono ?_
          rintro e w5 ⟨gm, rfl, hM, hL⟩
          have HD3 := Lib.hid (HD.out.none hL)
          clear hL HD
          obtain ⟨at_, hm1, hm2, hm3⟩ := hM
          have hcm : w5.cell? ⟨gm, ds' (7 + x), none⟩ = some (.slice (some ⟨at_ (ds' (7 + x)), 0, none⟩) 4 4) := by
            have hcm := hm1.cell (ds' (7 + x))
            rw [List.getElem?_map, List.getElem?_range (show ds' (7 + x) < lPats.length from hdx)] at hcm
            exact hcm
          have HP := Lib.hid (hm3 (ds' (7 + x)) hdx).1
          clear hm1 hm2 hm3
          rw [l_nats _ hdx] at HP
          have HS4 := Lib.hid (wid_sum 1 (ds' (7 + x)) (by omega))
          have HS5 := Lib.hid (wid_length 1 (ds' (7 + x)) (by omega))
          have HS8 := Lib.hid (digs_sum ds' 7 HS3.out x)
          have HS9 := Lib.hid (digs_length ds' 7 HS3.out x)
          generalize at_ (ds' (7 + x)) = gp at *
          clear at_
          rw [show lPats.length = 10 from rfl]
          have HE := Lib.hid (digs_succ ds' 7 x)
          generalize ds' (7 + x) = d at *
          go_wp2_with fail
          refine (append_more w w5 g gp _ (45 - 7 * x) (50 + 7 * x) _ _ _ (wid 1 d) true HD3.out HP.out (by rw [HS4.out]; omega) (by simp only [List.sum_append, HS6.out, HS8.out]; simp; omega) (by rw [HS5.out]; omega) (by simp only [List.length_append, HS7.out, HS9.out]; exact (hue_even (by simp; omega)).symm) (by simp only [List.sum_append, HS6.out, HS8.out]; rfl) HS5.out.symm (by simp only [List.sum_append, HS6.out, HS8.out]; simp; omega)).mono ?_
          rintro e w6 ⟨rfl, hD⟩
          rw [HS4.out] at hD ⊢
          rw [List.append_assoc, ← HE.out] at hD
          have HD4 := Lib.hid hD
          clear hD HD3 HP HS5 HS4 hcm HE HS8 HS9
          go_wp2
          go_roundw
          case rel => exact ⟨x + 1, by omega, by go_num, by go_num, by have := HD4.out; rwa [Nat.sub_sub, ← Nat.mul_succ] at this⟩
          case measure => simp [intOf]; omega
        · have hx4' : x = 6 := by omega
          subst hx4'
          clear hx4 hx
          have e64 : ((50 + 7 * 6 : Nat) : Int) = 92 := rfl
          have e8 : ((7 + 6 : Nat) : Int) = 13 := rfl
          rw [e64, e8]
          clear e64 e8
          go_wp2_with fail
          refine (startEnd_any wr).mono ?_
          rintro e w5 ⟨gp, rfl, hP, hg, hL⟩
          have HD3 := Lib.hid (HD.out.none hL)
          have HP := Lib.hid hP
          clear hP hg hL HD
          go_wp2_with fail
          have HS8 := Lib.hid (digs_sum ds' 7 HS3.out 6)
          have HS9 := Lib.hid (digs_length ds' 7 HS3.out 6)
          refine (append_more w w5 g gp _ 3 92 _ _ _ [1, 1, 1] true HD3.out HP.out (by decide) (by simp only [List.sum_append, HS6.out, HS8.out]; decide) (by decide) (by simp only [List.length_append, HS7.out, HS9.out]; rfl) (by simp only [List.sum_append, HS6.out, HS8.out]; rfl) rfl (by simp only [List.sum_append, HS6.out, HS8.out]; rfl)).mono ?_
          rintro e w6 ⟨rfl, hD⟩
          have HD4 := Lib.hid hD
          clear hD HD3 HP
          go_wp2
          go_ret2
          have hln : (bars true (sym13 ds')).length = 95 := by
            rw [bars_length]
            unfold sym13
            simp only [List.sum_append, HS6.out, HS8.out]
            rfl
          refine ⟨g, ?_, HD4.out.row, HD4.out.new, HD4.out.left⟩
          rw [hln]
          rfl
end Go.Proofs.YtojngchcghabiaaGreatDoor
