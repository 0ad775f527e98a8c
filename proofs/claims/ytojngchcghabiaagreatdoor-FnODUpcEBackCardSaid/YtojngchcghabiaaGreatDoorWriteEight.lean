/- The writer of EAN-8 (function 37). -/
import Derived.Test.YtojngchcghabiaaGreatDoorAppend
namespace Go.Proofs.YtojngchcghabiaaGreatDoor
open Go Go.RowKit

/-- The runs of x digits from the a-th on. -/
def digs (ds : Nat → Nat) (a x : Nat) : List Nat := (List.range x).flatMap fun i => wid 1 (ds (a + i))
theorem digs_zero (ds : Nat → Nat) (a : Nat) : digs ds a 0 = [] := rfl
theorem digs_succ (ds : Nat → Nat) (a x : Nat) : digs ds a (x + 1) = digs ds a x ++ wid 1 (ds (a + x)) := by simp [digs, List.range_succ]
theorem digs_sum (ds : Nat → Nat) (a : Nat) (h : ∀ i, ds i < 20) : ∀ x, (digs ds a x).sum = 7 * x
  | 0 => rfl
  | x + 1 => by rw [digs_succ, List.sum_append, digs_sum ds a h x, wid_sum 1 _ (h _)]; omega
theorem digs_length (ds : Nat → Nat) (a : Nat) (h : ∀ i, ds i < 20) : ∀ x, (digs ds a x).length = 4 * x
  | 0 => rfl
  | x + 1 => by rw [digs_succ, List.length_append, digs_length ds a h x, wid_length 1 _ (h _)]; omega
theorem l_nats (d : Nat) (hd : d < 10) : ints (lPats.getD d []) = nats (wid 1 d) := by
  have : d = 0 ∨ d = 1 ∨ d = 2 ∨ d = 3 ∨ d = 4 ∨ d = 5 ∨ d = 6 ∨ d = 7 ∨ d = 8 ∨ d = 9 := by omega
  rcases this with rfl | rfl | rfl | rfl | rfl | rfl | rfl | rfl | rfl | rfl <;> rfl

/-- The runs of a whole EAN-8 symbol. -/
def sym8 (ds : Nat → Nat) : List Nat := [1, 1, 1] ++ digs ds 0 4 ++ [1, 1, 1, 1, 1] ++ digs ds 4 4 ++ [1, 1, 1]

theorem hue_odd {k : Nat} (h : k % 2 = 1) : hue true k = false := by simp [hue, h]
theorem hue_even {k : Nat} (h : k % 2 = 0) : hue true k = true := by simp [hue, h]

/-- A call that makes a row of bools. -/
def MakesBools (R : List Bool) (w : World) (e : Ending) (w' : World) : Prop :=
  ∃ g, e = .returned (.tuple #[.slice (some ⟨g, 0, none⟩) R.length R.length, .nilIface]) ∧ Whole w' g 4 (bls R 0) ∧ w.heap.size ≤ g ∧ Left' none w w'

/-- The place in the target row: the runs L stand in it, k light ones are behind them. -/
structure Drawn (w wr : World) (g : Nat) (L : List Nat) (k : Nat) : Prop where
  row : Whole wr g 4 (bls (bars true L) k)
  left : Left' none w wr
  new : w.heap.size ≤ g

theorem Drawn.none {w wr w' : World} {g k : Nat} {L : List Nat} (h : Drawn w wr g L k) (k' : Left' Option.none wr w') : Drawn w w' g L k := ⟨h.row.left k' (by simp), h.left.trans k', h.new⟩

/-- appendPattern behind the runs L. -/
theorem append_more (w wr : World) (g gp cm k p m N : Nat) (L ns : List Nat) (c : Bool) (hD : Drawn w wr g L k) (hp : Whole wr gp 3 (nats ns)) (hk : ns.sum ≤ k) (hlen : L.sum + k ≤ 1000) (hm : ns.length ≤ 100) (hc : c = hue true L.length) (hpp : p = L.sum) (hmm : m = ns.length) (hN : N = L.sum + k) :
    Calls Tryz.prog 50 #[.slice (some ⟨g, 0, none⟩) N N, .int .i64 p, .slice (some ⟨gp, 0, none⟩) m cm, .bool c] wr fun e w' =>
      e = .returned (.int .i64 (ns.sum : Nat)) ∧ Drawn w w' g (L ++ ns) (k - ns.sum) := by
  subst hpp hmm hN
  have hb := bars_length true L
  rw [← hb]
  refine (append_any g gp cm k (bars true L) ns c wr hD.row hp hk (by omega) hm).mono ?_
  rintro e w' ⟨rfl, hW, hL⟩
  refine ⟨rfl, ?_, hD.left.ownOne hL (.inr hD.new), hD.new⟩
  rw [bars_append, ← hc]
  exact hW


set_option maxRecDepth 100000 in
set_option maxHeartbeats 4000000 in
theorem write8_eight (v : Value) (s : ByteArray) (ds : Nat → Nat) (w : World) (h : Says s 8 ds) (hc : ds 7 = chd ds 7) (hv : v = .agg #[]) :
    Calls Tryz.prog 37 #[v, .string s, .map none] w (MakesBools (bars true (sym8 ds)) w) := by
  subst hv
  have hmk := fun W => run_make_one (P := Tryz.prog) 25 4 (.bool false) 1 Tryz.underlying25 info4 rfl .i64 .i64 67 67 67 rfl rfl (by omega) (by omega) W
  have H := Lib.hid h
  have hsz := h.size
  have hsi : (s.size : Int) = 8 := by omega
  clear h
  have HC := Lib.hid hc
  clear hc
  go_enter Tryz.func37, Tryz.ntmps37
  go_wp2_with fail
  refine (standardOk_any s 7 ds _ H.out (by omega) (by omega) HC.out).mono ?_
  rintro e w1 ⟨rfl, rfl⟩
  go_wp2_with fail
  refine (numeric_any s 8 ds _ H.out (by omega)).mono ?_
  rintro e w1 ⟨rfl, hL1⟩
  go_wp2_with fail
  have hL0 : Left' none w w1 := ((Left'.refl _ _).alloc _).trans hL1
  clear hL1
  have HD0 : Hid (Drawn w (w1.alloc (.cells (reps 67 (.bool false)) 4)) w1.heap.size [] 67) := ⟨Whole.reps w1 4 67 (.bool false), hL0.alloc _, hL0.size⟩
  have HS3 : Hid (∀ i, ds i < 20) := fun i => by have := H.out.dig i; omega
  clear hL0
  generalize World.alloc _ _ = w2 at *
  generalize w1.heap.size = g at *
  refine (startEnd_any w2).mono ?_
  rintro e w3 ⟨gp, rfl, hP, hg, hL⟩
  have HD1 := Lib.hid (HD0.out.none hL)
  have HP := Lib.hid hP
  clear hP hg hL HD0
  go_wp2_with fail
  refine (append_more w w3 g gp _ 67 0 _ _ [] [1, 1, 1] true HD1.out HP.out (by decide) (by decide) (by decide) rfl rfl rfl rfl).mono ?_
  rintro e w4 ⟨rfl, hD⟩
  have HD2 := Lib.hid hD
  clear hD HD1 HP
  have esum : (([1, 1, 1] : List Nat).sum : Int) = 3 := rfl
  rw [esum]
  clear esum
  go_wp2
  go_loopw [15, 16] (fun p i wr => ∃ x : Nat, x ≤ 4 ∧ p = .int .i64 (3 + 7 * x : Nat) ∧ i = .int .i64 x ∧ Drawn w wr g ([1, 1, 1] ++ digs ds 0 x) (64 - 7 * x)) (fun _ i _ => 4 - (intOf i).toNat)
  case atStart => exact ⟨0, by omega, rfl, rfl, HD2.out⟩
  case round =>
    clear HD2
    obtain ⟨x, hx, rfl, rfl, hD⟩ := hrel
    have HD := Lib.hid hD
    clear hD
    by_cases hx4 : x < 4
    · have hxs : x < s.size := by omega
      have hb := H.out.byte x hxs
      have hdx := H.out.dig x
      have HB := Lib.hid hb
      have hb1 : 48 ≤ s[x].toNat := by omega
      have hb2 : s[x].toNat ≤ 57 := by omega
      have hbi : (s[x].toNat : Int) - 48 = (ds x : Int) := by omega
      clear hb
      go_wp2_with fail
      refine (lPats_any wr).mono ?_
      rintro e w5 ⟨gm, rfl, hM, hL⟩
      have HD3 := Lib.hid (HD.out.none hL)
      clear hL HD
      obtain ⟨at_, hm1, hm2, hm3⟩ := hM
      have hcm : w5.cell? ⟨gm, ds x, none⟩ = some (.slice (some ⟨at_ (ds x), 0, none⟩) 4 4) := by
        have hcm := hm1.cell (ds x)
        rw [List.getElem?_map, List.getElem?_range (show ds x < lPats.length from hdx)] at hcm
        exact hcm
      have HP := Lib.hid (hm3 (ds x) hdx).1
      clear hm1 hm2 hm3
      rw [l_nats _ hdx] at HP
      have HS4 := Lib.hid (wid_sum 1 (ds x) (by omega))
      have HS5 := Lib.hid (wid_length 1 (ds x) (by omega))
      have HS6 := Lib.hid (digs_sum ds 0 HS3.out x)
      have HS7 := Lib.hid (digs_length ds 0 HS3.out x)
      generalize at_ (ds x) = gp at *
      clear at_
      rw [show lPats.length = 10 from rfl]
      go_wp2_with fail
      refine (append_more w w5 g gp _ (64 - 7 * x) (3 + 7 * x) _ _ _ (wid 1 (ds x)) false HD3.out HP.out (by rw [HS4.out]; omega) (by rw [List.sum_append, HS6.out]; simp; omega) (by rw [HS5.out]; omega) (by rw [List.length_append, HS7.out]; exact (hue_odd (by simp; omega)).symm) (by rw [List.sum_append, HS6.out]; rfl) HS5.out.symm (by rw [List.sum_append, HS6.out]; simp; omega)).mono ?_
      rintro e w6 ⟨rfl, hD⟩
      rw [HS4.out] at hD ⊢
      have e1 : digs ds 0 (x + 1) = digs ds 0 x ++ wid 1 (ds x) := by rw [digs_succ, Nat.zero_add]
      rw [List.append_assoc, ← e1] at hD
      clear e1
      have HD4 := Lib.hid hD
      clear hD HD3 HP HS6 HS7 HS5 HS4 hcm
      go_wp2
      go_roundw
      case rel => exact ⟨x + 1, by omega, by go_num, by go_num, by have := HD4.out; rwa [Nat.sub_sub, ← Nat.mul_succ] at this⟩
      case measure => simp [intOf]; omega
    · have hx4' : x = 4 := by omega
      subst hx4'
      clear hx4 hx
      have e31 : ((3 + 7 * 4 : Nat) : Int) = 31 := rfl
      rw [e31]
      clear e31
      go_wp2_with fail
      refine (middle_any wr).mono ?_
      rintro e w5 ⟨gp, rfl, hP, hg, hL⟩
      have HD3 := Lib.hid (HD.out.none hL)
      have HP := Lib.hid hP
      clear hP hg hL HD
      go_wp2_with fail
      have HS6 := Lib.hid (digs_sum ds 0 HS3.out 4)
      have HS7 := Lib.hid (digs_length ds 0 HS3.out 4)
      refine (append_more w w5 g gp _ 36 31 _ _ _ [1, 1, 1, 1, 1] false HD3.out HP.out (by decide) (by rw [List.sum_append, HS6.out]; decide) (by decide) (by rw [List.length_append, HS7.out]; rfl) (by rw [List.sum_append, HS6.out]; rfl) rfl (by rw [List.sum_append, HS6.out]; rfl)).mono ?_
      rintro e w6 ⟨rfl, hD⟩
      have esum : (([1, 1, 1, 1, 1] : List Nat).sum : Int) = 5 := rfl
      rw [esum]
      clear esum
      have HD4 := Lib.hid hD
      clear hD HD3 HP
      go_wp2
      go_loopw [15, 18] (fun p i wr => ∃ x : Nat, x ≤ 4 ∧ p = .int .i64 (36 + 7 * x : Nat) ∧ i = .int .i64 (4 + x : Nat) ∧ Drawn w wr g ([1, 1, 1] ++ digs ds 0 4 ++ [1, 1, 1, 1, 1] ++ digs ds 4 x) (31 - 7 * x)) (fun _ i _ => 8 - (intOf i).toNat)
      case atStart => exact ⟨0, by omega, rfl, rfl, by have := HD4.out; simpa [digs_zero] using this⟩
      case round =>
        clear HD4
        obtain ⟨x, hx, rfl, rfl, hD⟩ := hrel
        have HD := Lib.hid hD
        clear hD
        by_cases hx4 : x < 4
        · have hxs : 4 + x < s.size := by omega
          have hb := H.out.byte (4 + x) hxs
          have hdx := H.out.dig (4 + x)
          have hb1 : 48 ≤ s[4 + x].toNat := by omega
          have hb2 : s[4 + x].toNat ≤ 57 := by omega
          have hbi : (s[4 + x].toNat : Int) - 48 = (ds (4 + x) : Int) := by omega
          clear hb
          go_wp2_with fail
          refine (lPats_any wr).mono ?_
          rintro e w5 ⟨gm, rfl, hM, hL⟩
          have HD3 := Lib.hid (HD.out.none hL)
          clear hL HD
          obtain ⟨at_, hm1, hm2, hm3⟩ := hM
          have hcm : w5.cell? ⟨gm, ds (4 + x), none⟩ = some (.slice (some ⟨at_ (ds (4 + x)), 0, none⟩) 4 4) := by
            have hcm := hm1.cell (ds (4 + x))
            rw [List.getElem?_map, List.getElem?_range (show ds (4 + x) < lPats.length from hdx)] at hcm
            exact hcm
          have HP := Lib.hid (hm3 (ds (4 + x)) hdx).1
          clear hm1 hm2 hm3
          rw [l_nats _ hdx] at HP
          have HS4 := Lib.hid (wid_sum 1 (ds (4 + x)) (by omega))
          have HS5 := Lib.hid (wid_length 1 (ds (4 + x)) (by omega))
          have HS8 := Lib.hid (digs_sum ds 4 HS3.out x)
          have HS9 := Lib.hid (digs_length ds 4 HS3.out x)
          generalize at_ (ds (4 + x)) = gp at *
          clear at_
          rw [show lPats.length = 10 from rfl]
          have HE := Lib.hid (digs_succ ds 4 x)
          generalize ds (4 + x) = d at *
          go_wp2_with fail
          refine (append_more w w5 g gp _ (31 - 7 * x) (36 + 7 * x) _ _ _ (wid 1 d) true HD3.out HP.out (by rw [HS4.out]; omega) (by simp only [List.sum_append, HS6.out, HS8.out]; simp; omega) (by rw [HS5.out]; omega) (by simp only [List.length_append, HS7.out, HS9.out]; exact (hue_even (by simp; omega)).symm) (by simp only [List.sum_append, HS6.out, HS8.out]; rfl) HS5.out.symm (by simp only [List.sum_append, HS6.out, HS8.out]; simp; omega)).mono ?_
          rintro e w6 ⟨rfl, hD⟩
          rw [HS4.out] at hD ⊢
          rw [List.append_assoc, ← HE.out] at hD
          have HD4 := Lib.hid hD
          clear hD HD3 HP HS5 HS4 hcm HE HS8 HS9
          go_wp2
          go_roundw
          case rel => exact ⟨x + 1, by omega, by go_num, by go_num, by have := HD4.out; rwa [Nat.sub_sub, ← Nat.mul_succ] at this⟩
          case measure => simp [intOf]; omega
        · have hx4' : x = 4 := by omega
          subst hx4'
          clear hx4 hx
          have e64 : ((36 + 7 * 4 : Nat) : Int) = 64 := rfl
          have e8 : ((4 + 4 : Nat) : Int) = 8 := rfl
          rw [e64, e8]
          clear e64 e8
          go_wp2_with fail
          refine (startEnd_any wr).mono ?_
          rintro e w5 ⟨gp, rfl, hP, hg, hL⟩
          have HD3 := Lib.hid (HD.out.none hL)
          have HP := Lib.hid hP
          clear hP hg hL HD
          go_wp2_with fail
          have HS8 := Lib.hid (digs_sum ds 4 HS3.out 4)
          have HS9 := Lib.hid (digs_length ds 4 HS3.out 4)
          refine (append_more w w5 g gp _ 3 64 _ _ _ [1, 1, 1] true HD3.out HP.out (by decide) (by simp only [List.sum_append, HS6.out, HS8.out]; decide) (by decide) (by simp only [List.length_append, HS7.out, HS9.out]; rfl) (by simp only [List.sum_append, HS6.out, HS8.out]; rfl) rfl (by simp only [List.sum_append, HS6.out, HS8.out]; rfl)).mono ?_
          rintro e w6 ⟨rfl, hD⟩
          have HD4 := Lib.hid hD
          clear hD HD3 HP
          go_wp2
          go_ret2
          have hln : (bars true (sym8 ds)).length = 67 := by
            rw [bars_length]
            unfold sym8
            simp only [List.sum_append, HS6.out, HS8.out]
            rfl
          refine ⟨g, ?_, HD4.out.row, HD4.out.new, HD4.out.left⟩
          rw [hln]
          rfl

theorem more_says {s : ByteArray} {n : Nat} {ds : Nat → Nat} (h : Says s n ds) : Says (s ++ one (chd ds n)) (n + 1) (more ds n) := by
  have e : s ++ one (chd ds n) = textOf (more ds n) (n + 1) := by rw [more_text, ← textOf_eq h]
  rw [e]
  exact textOf_says _ _ fun i => by unfold more; split; exact h.dig i; exact chd_lt ds n

set_option maxRecDepth 100000 in
set_option maxHeartbeats 4000000 in
theorem write8_seven (v : Value) (s : ByteArray) (ds : Nat → Nat) (w : World) (h : Says s 7 ds) (hv : v = .agg #[]) :
    Calls Tryz.prog 37 #[v, .string s, .map none] w (MakesBools (bars true (sym8 (more ds 7))) w) := by
  subst hv
  have hmk := fun W => run_make_one (P := Tryz.prog) 25 4 (.bool false) 1 Tryz.underlying25 info4 rfl .i64 .i64 67 67 67 rfl rfl (by omega) (by omega) W
  have H0 := Lib.hid h
  have hsz := h.size
  have hsi : (s.size : Int) = 7 := by omega
  clear h
  have HM := Lib.hid (more_says H0.out)
  go_enter Tryz.func37, Tryz.ntmps37
  go_wp2_with fail
  refine (standard_any s 7 ds _ H0.out (by omega) (by omega)).mono ?_
  rintro e w1 ⟨rfl, rfl⟩
  go_wp2_with fail
  refine (itoa_any (chd ds 7) _ (chd_lt ds 7)).mono ?_
  rintro e w1 ⟨rfl, rfl⟩
  have hsum : s.size + (one (chd ds 7)).size ≤ 9223372036854775807 := by have h2 : (one (chd ds 7)).size = 1 := rfl; omega
  generalize one (chd ds 7) = c at *
  generalize more ds 7 = ds' at *
  have hadd := fun W => run_string_add_sum (P := Tryz.prog) W s c hsum
  clear hsum
  generalize hs : s ++ c = s' at *
  clear hs
  go_wp2_with fail
  refine (numeric_any s' 8 ds' _ HM.out (by omega)).mono ?_
  clear H0
  have H := HM
  clear HM hadd hsi hsz
  have hsz := H.out.size
  have hsi : (s'.size : Int) = 8 := by omega
  rintro e w1 ⟨rfl, hL1⟩
  go_wp2_with fail
  have hL0 : Left' none w w1 := ((Left'.refl _ _).alloc _).trans hL1
  clear hL1
  have HD0 : Hid (Drawn w (w1.alloc (.cells (reps 67 (.bool false)) 4)) w1.heap.size [] 67) := ⟨Whole.reps w1 4 67 (.bool false), hL0.alloc _, hL0.size⟩
  have HS3 : Hid (∀ i, ds' i < 20) := fun i => by have := H.out.dig i; omega
  clear hL0
  generalize World.alloc _ _ = w2 at *
  generalize w1.heap.size = g at *
  refine (startEnd_any w2).mono ?_
  rintro e w3 ⟨gp, rfl, hP, hg, hL⟩
  have HD1 := Lib.hid (HD0.out.none hL)
  have HP := Lib.hid hP
  clear hP hg hL HD0
  go_wp2_with fail
  refine (append_more w w3 g gp _ 67 0 _ _ [] [1, 1, 1] true HD1.out HP.out (by decide) (by decide) (by decide) rfl rfl rfl rfl).mono ?_
  rintro e w4 ⟨rfl, hD⟩
  have HD2 := Lib.hid hD
  clear hD HD1 HP
  have esum : (([1, 1, 1] : List Nat).sum : Int) = 3 := rfl
  rw [esum]
  clear esum
  go_wp2
  go_loopw [15, 16] (fun p i wr => ∃ x : Nat, x ≤ 4 ∧ p = .int .i64 (3 + 7 * x : Nat) ∧ i = .int .i64 x ∧ Drawn w wr g ([1, 1, 1] ++ digs ds' 0 x) (64 - 7 * x)) (fun _ i _ => 4 - (intOf i).toNat)
  case atStart => exact ⟨0, by omega, rfl, rfl, HD2.out⟩
  case round =>
    clear HD2
    obtain ⟨x, hx, rfl, rfl, hD⟩ := hrel
    have HD := Lib.hid hD
    clear hD
    by_cases hx4 : x < 4
    · have hxs : x < s'.size := by omega
      have hb := H.out.byte x hxs
      have hdx := H.out.dig x
      have HB := Lib.hid hb
      have hb1 : 48 ≤ s'[x].toNat := by omega
      have hb2 : s'[x].toNat ≤ 57 := by omega
      have hbi : (s'[x].toNat : Int) - 48 = (ds' x : Int) := by omega
      clear hb
      go_wp2_with fail
      refine (lPats_any wr).mono ?_
      rintro e w5 ⟨gm, rfl, hM, hL⟩
      have HD3 := Lib.hid (HD.out.none hL)
      clear hL HD
      obtain ⟨at_, hm1, hm2, hm3⟩ := hM
      have hcm : w5.cell? ⟨gm, ds' x, none⟩ = some (.slice (some ⟨at_ (ds' x), 0, none⟩) 4 4) := by
        have hcm := hm1.cell (ds' x)
        rw [List.getElem?_map, List.getElem?_range (show ds' x < lPats.length from hdx)] at hcm
        exact hcm
      have HP := Lib.hid (hm3 (ds' x) hdx).1
      clear hm1 hm2 hm3
      rw [l_nats _ hdx] at HP
      have HS4 := Lib.hid (wid_sum 1 (ds' x) (by omega))
      have HS5 := Lib.hid (wid_length 1 (ds' x) (by omega))
      have HS6 := Lib.hid (digs_sum ds' 0 HS3.out x)
      have HS7 := Lib.hid (digs_length ds' 0 HS3.out x)
      generalize at_ (ds' x) = gp at *
      clear at_
      rw [show lPats.length = 10 from rfl]
      go_wp2_with fail
      refine (append_more w w5 g gp _ (64 - 7 * x) (3 + 7 * x) _ _ _ (wid 1 (ds' x)) false HD3.out HP.out (by rw [HS4.out]; omega) (by rw [List.sum_append, HS6.out]; simp; omega) (by rw [HS5.out]; omega) (by rw [List.length_append, HS7.out]; exact (hue_odd (by simp; omega)).symm) (by rw [List.sum_append, HS6.out]; rfl) HS5.out.symm (by rw [List.sum_append, HS6.out]; simp; omega)).mono ?_
      rintro e w6 ⟨rfl, hD⟩
      rw [HS4.out] at hD ⊢
      have e1 : digs ds' 0 (x + 1) = digs ds' 0 x ++ wid 1 (ds' x) := by rw [digs_succ, Nat.zero_add]
      rw [List.append_assoc, ← e1] at hD
      clear e1
      have HD4 := Lib.hid hD
      clear hD HD3 HP HS6 HS7 HS5 HS4 hcm
      go_wp2
      go_roundw
      case rel => exact ⟨x + 1, by omega, by go_num, by go_num, by have := HD4.out; rwa [Nat.sub_sub, ← Nat.mul_succ] at this⟩
      case measure => simp [intOf]; omega
    · have hx4' : x = 4 := by omega
      subst hx4'
      clear hx4 hx
      have e31 : ((3 + 7 * 4 : Nat) : Int) = 31 := rfl
      rw [e31]
      clear e31
      go_wp2_with fail
      refine (middle_any wr).mono ?_
      rintro e w5 ⟨gp, rfl, hP, hg, hL⟩
      have HD3 := Lib.hid (HD.out.none hL)
      have HP := Lib.hid hP
      clear hP hg hL HD
      go_wp2_with fail
      have HS6 := Lib.hid (digs_sum ds' 0 HS3.out 4)
      have HS7 := Lib.hid (digs_length ds' 0 HS3.out 4)
      refine (append_more w w5 g gp _ 36 31 _ _ _ [1, 1, 1, 1, 1] false HD3.out HP.out (by decide) (by rw [List.sum_append, HS6.out]; decide) (by decide) (by rw [List.length_append, HS7.out]; rfl) (by rw [List.sum_append, HS6.out]; rfl) rfl (by rw [List.sum_append, HS6.out]; rfl)).mono ?_
      rintro e w6 ⟨rfl, hD⟩
      have esum : (([1, 1, 1, 1, 1] : List Nat).sum : Int) = 5 := rfl
      rw [esum]
      clear esum
      have HD4 := Lib.hid hD
      clear hD HD3 HP
      go_wp2
      go_loopw [15, 18] (fun p i wr => ∃ x : Nat, x ≤ 4 ∧ p = .int .i64 (36 + 7 * x : Nat) ∧ i = .int .i64 (4 + x : Nat) ∧ Drawn w wr g ([1, 1, 1] ++ digs ds' 0 4 ++ [1, 1, 1, 1, 1] ++ digs ds' 4 x) (31 - 7 * x)) (fun _ i _ => 8 - (intOf i).toNat)
      case atStart => exact ⟨0, by omega, rfl, rfl, by have := HD4.out; simpa [digs_zero] using this⟩
      case round =>
        clear HD4
        obtain ⟨x, hx, rfl, rfl, hD⟩ := hrel
        have HD := Lib.hid hD
        clear hD
        by_cases hx4 : x < 4
        · have hxs : 4 + x < s'.size := by omega
          have hb := H.out.byte (4 + x) hxs
          have hdx := H.out.dig (4 + x)
          have hb1 : 48 ≤ s'[4 + x].toNat := by omega
          have hb2 : s'[4 + x].toNat ≤ 57 := by omega
          have hbi : (s'[4 + x].toNat : Int) - 48 = (ds' (4 + x) : Int) := by omega
          clear hb
          go_wp2_with fail
          refine (lPats_any wr).mono ?_
          rintro e w5 ⟨gm, rfl, hM, hL⟩
          have HD3 := Lib.hid (HD.out.none hL)
          clear hL HD
          obtain ⟨at_, hm1, hm2, hm3⟩ := hM
          have hcm : w5.cell? ⟨gm, ds' (4 + x), none⟩ = some (.slice (some ⟨at_ (ds' (4 + x)), 0, none⟩) 4 4) := by
            have hcm := hm1.cell (ds' (4 + x))
            rw [List.getElem?_map, List.getElem?_range (show ds' (4 + x) < lPats.length from hdx)] at hcm
            exact hcm
          have HP := Lib.hid (hm3 (ds' (4 + x)) hdx).1
          clear hm1 hm2 hm3
          rw [l_nats _ hdx] at HP
          have HS4 := Lib.hid (wid_sum 1 (ds' (4 + x)) (by omega))
          have HS5 := Lib.hid (wid_length 1 (ds' (4 + x)) (by omega))
          have HS8 := Lib.hid (digs_sum ds' 4 HS3.out x)
          have HS9 := Lib.hid (digs_length ds' 4 HS3.out x)
          generalize at_ (ds' (4 + x)) = gp at *
          clear at_
          rw [show lPats.length = 10 from rfl]
          have HE := Lib.hid (digs_succ ds' 4 x)
          generalize ds' (4 + x) = d at *
          go_wp2_with fail
          refine (append_more w w5 g gp _ (31 - 7 * x) (36 + 7 * x) _ _ _ (wid 1 d) true HD3.out HP.out (by rw [HS4.out]; omega) (by simp only [List.sum_append, HS6.out, HS8.out]; simp; omega) (by rw [HS5.out]; omega) (by simp only [List.length_append, HS7.out, HS9.out]; exact (hue_even (by simp; omega)).symm) (by simp only [List.sum_append, HS6.out, HS8.out]; rfl) HS5.out.symm (by simp only [List.sum_append, HS6.out, HS8.out]; simp; omega)).mono ?_
          rintro e w6 ⟨rfl, hD⟩
          rw [HS4.out] at hD ⊢
          rw [List.append_assoc, ← HE.out] at hD
          have HD4 := Lib.hid hD
          clear hD HD3 HP HS5 HS4 hcm HE HS8 HS9
          go_wp2
          go_roundw
          case rel => exact ⟨x + 1, by omega, by go_num, by go_num, by have := HD4.out; rwa [Nat.sub_sub, ← Nat.mul_succ] at this⟩
          case measure => simp [intOf]; omega
        · have hx4' : x = 4 := by omega
          subst hx4'
          clear hx4 hx
          have e64 : ((36 + 7 * 4 : Nat) : Int) = 64 := rfl
          have e8 : ((4 + 4 : Nat) : Int) = 8 := rfl
          rw [e64, e8]
          clear e64 e8
          go_wp2_with fail
          refine (startEnd_any wr).mono ?_
          rintro e w5 ⟨gp, rfl, hP, hg, hL⟩
          have HD3 := Lib.hid (HD.out.none hL)
          have HP := Lib.hid hP
          clear hP hg hL HD
          go_wp2_with fail
          have HS8 := Lib.hid (digs_sum ds' 4 HS3.out 4)
          have HS9 := Lib.hid (digs_length ds' 4 HS3.out 4)
          refine (append_more w w5 g gp _ 3 64 _ _ _ [1, 1, 1] true HD3.out HP.out (by decide) (by simp only [List.sum_append, HS6.out, HS8.out]; decide) (by decide) (by simp only [List.length_append, HS7.out, HS9.out]; rfl) (by simp only [List.sum_append, HS6.out, HS8.out]; rfl) rfl (by simp only [List.sum_append, HS6.out, HS8.out]; rfl)).mono ?_
          rintro e w6 ⟨rfl, hD⟩
          have HD4 := Lib.hid hD
          clear hD HD3 HP
          go_wp2
          go_ret2
          have hln : (bars true (sym8 ds')).length = 67 := by
            rw [bars_length]
            unfold sym8
            simp only [List.sum_append, HS6.out, HS8.out]
            rfl
          refine ⟨g, ?_, HD4.out.row, HD4.out.new, HD4.out.left⟩
          rw [hln]
          rfl
end Go.Proofs.YtojngchcghabiaaGreatDoor
