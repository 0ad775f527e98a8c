/-
  The walk over the EAN-13 reader's decodeMiddle.
-/
import Derived.Test.YtojngchcghabiaaGreatDoorMidEight
namespace Go.Proofs.YtojngchcghabiaaGreatDoor
open Go Go.RowKit

/-- A digit that is not there yet counts as 0. -/
def es (ds : Nat → Nat) (i : Nat) : Nat := if i = 0 then 0 else ds i
theorem es_succ (ds : Nat → Nat) (i : Nat) : es ds (i + 1) = ds (i + 1) := by simp [es]

/-- Which of the first x digits are of the second set. -/
def mask (ps : Nat → Nat) : Nat → Nat
  | 0 => 0
  | x + 1 => if 10 ≤ ps x then mask ps x ||| 2 ^ (5 - x) else mask ps x
theorem mask_lt (ps : Nat → Nat) : ∀ x, x ≤ 6 → mask ps x < 64
  | 0, _ => by simp [mask]
  | x + 1, h => by
    have ih := mask_lt ps x (by omega)
    rw [mask]
    split
    · exact Nat.or_lt_two_pow (n := 6) ih (by
        have : x = 0 ∨ x = 1 ∨ x = 2 ∨ x = 3 ∨ x = 4 ∨ x = 5 := by omega
        rcases this with rfl | rfl | rfl | rfl | rfl | rfl <;> decide)
    · exact ih
theorem mask_or (x : Nat) (hx : x < 6) (m : Nat) (hm : m < 64) : bits BinOp.or .i64 (m : Int) ((2 ^ (5 - x) : Nat) : Int) = ((m ||| 2 ^ (5 - x) : Nat) : Int) := by
  have : ∀ x : Fin 6, ∀ m : Fin 64, bits BinOp.or .i64 ((m : Nat) : Int) ((2 ^ (5 - (x : Nat)) : Nat) : Int) = (((m : Nat) ||| 2 ^ (5 - (x : Nat)) : Nat) : Int) := by decide
  exact this ⟨x, hx⟩ ⟨m, hm⟩

theorem wrap_pow (x : Nat) (hx : x < 6) : wrap64 ((2 : Int) ^ (5 - x)) = ((2 ^ (5 - x) : Nat) : Int) := by
  have : x = 0 ∨ x = 1 ∨ x = 2 ∨ x = 3 ∨ x = 4 ∨ x = 5 := by omega
  rcases this with rfl | rfl | rfl | rfl | rfl | rfl <;> simp [wrap64]

def firstNat : List Nat := [0, 11, 13, 14, 19, 25, 28, 21, 22, 26]
theorem first_nats : ints firstEnc = nats firstNat := rfl

set_option maxHeartbeats 1000000 in
/-- determineFirstDigit: the place of a mask among the ten. -/
theorem firstDigit_any (d : Nat) (w : World) (hd : d < 10) :
    Calls Tryz.prog 172 #[.int .i64 (firstNat.getD d 0 : Nat)] w fun e w' => e = .returned (.tuple #[.int .u8 d, .nilIface]) ∧ Left' none w w' := by
  have hne : ∀ k : Nat, k < d → ((firstNat.getD d 0 : Nat) : Int) ≠ ((firstNat.getD k 0 : Nat) : Int) := by
    have h : ∀ a b : Fin 10, (b : Nat) < a → ((firstNat.getD a 0 : Nat) : Int) ≠ ((firstNat.getD b 0 : Nat) : Int) := by decide
    exact fun k hk => h ⟨d, hd⟩ ⟨k, by omega⟩ hk
  have HN := Lib.hid hne
  clear hne
  have HM := Lib.hid (rfl : firstNat.getD d 0 = firstNat.getD d 0)
  generalize hm : firstNat.getD d 0 = m at HM HN ⊢
  have HMM := Lib.hid hm
  clear hm
  go_enter Tryz.func172, Tryz.ntmps172
  go_wp2
  go_loopw [4] (fun i wr => ∃ k : Nat, k ≤ d ∧ i = .int .i64 k ∧ Left' none w wr) (fun i _ => d - (intOf i).toNat)
  case atStart => exact ⟨0, by omega, rfl, .refl _ _⟩
  case round =>
    obtain ⟨k, hk, rfl, hL⟩ := hrel
    have HL := Lib.hid hL
    clear hL
    go_wp2_with fail
    refine (firstEnc_any wr).mono ?_
    rintro e w1 ⟨g, rfl, hW, hg, hL1⟩
    have HL1 := Lib.hid (HL.out.trans hL1)
    rw [first_nats] at hW
    have hc := hW.cell k
    have hk10 : k < firstNat.length := Nat.lt_of_le_of_lt hk hd
    rw [nats_get _ _ hk10] at hc
    rw [show firstEnc.length = 10 from rfl]
    clear hW hL1 HL hg
    by_cases hkd : k < d
    · have hz := HN.out k hkd
      generalize firstNat.getD k 0 = z at *
      have hz' : ((m : Int) == (z : Int)) = false := by simpa using hz
      clear hz
      go_wp2
      go_roundw
      case rel => exact ⟨k + 1, by omega, by go_num, HL1.out⟩
      case measure => simp [intOf]; omega
    · have hk' : k = d := by omega
      subst hk'
      rw [HMM.out] at hc
      go_wp2
      go_ret2
      exact ⟨rfl, HL1.out⟩

theorem own_set {w : World} {base g n c i : Nat} {xs : List Value} {v : Value} (h : w.ownsRow base 5 1 (.slice (some ⟨g, 0, none⟩) n c) n xs) (_hi : i < n) : (w.setCell ⟨g, i, none⟩ v).ownsRow base 5 1 (.slice (some ⟨g, 0, none⟩) n c) n (xs.set i v) := by
  obtain ⟨h1, h2⟩ := h
  refine ⟨by simpa using h1, ?_⟩
  rcases h2 with ⟨e1, _⟩ | ⟨g', cap, cur, hv, hg, hh, hnc, hcm, hcs, hx⟩
  · cases e1
  · injection hv with hv1 hv2 hv3
    injection hv1 with hv1
    injection hv1 with hv1
    subst hv1
    refine .inr ⟨g, cap, cur.setIfInBounds i v, by rw [hv3], hg, ?_, hnc, hcm, by simpa using hcs, ?_⟩
    · simp [World.setCell, Array.getElem?_modify, hh]
    · rw [← hx]
      simp [List.take_set]
theorem own_frozen {w : World} {base g n c : Nat} {xs : List Value} (h : w.ownsRow base 5 1 (.slice (some ⟨g, 0, none⟩) n c) n xs) (i : Nat) : w.frozen? ⟨g, i, none⟩ = false := by
  obtain ⟨cur, hh⟩ := own_block h
  exact frozen_of_row w g i cur 5 hh
theorem bts_first (ds : Nat → Nat) (n : Nat) : (bts (es ds) (n + 1)).set 0 (.int .u8 ((48 + ds 0 : Nat) : Int)) = bts ds (n + 1) := by
  unfold bts
  rw [List.range_succ_eq_map]
  simp [es]

theorem own_cells5 {w : World} {base g n c : Nat} {ds : Nat → Nat} (h : w.ownsRow base 5 1 (.slice (some ⟨g, 0, none⟩) n c) n (bts (es ds) n)) (i : Nat) (hi : i < n) : w.cell? ⟨g, i, none⟩ = some (.int .u8 ((48 + es ds i : Nat) : Int)) := by
  have := h.cells (g := g) rfl i (.int .u8 ((48 + es ds i : Nat) : Int)) (by simp [bts, hi])
  rw [Addr.add_lit, Nat.zero_add] at this
  exact this

set_option maxRecDepth 100000 in
set_option maxHeartbeats 4000000 in
/-- decodeMiddle of the EAN-13 reader. -/
theorem mid13_any (p gw r gc gb gs o b s0 : Nat) (u : Value) (ds ps : Nat → Nat) (R : List Bool) (old : List Value) (w : World) (hb : 0 < b) (hb4 : b ≤ 4) (hds : ∀ i, ds i < 10) (hps : ∀ x, x < 6 → ps x < 20 ∧ ps x % 10 = ds (x + 1)) (hmask : mask ps 6 = firstNat.getD (ds 0) 0)
    (hB : Bits w p gw R) (hT : Tab w) (hr : Whole w r 64 [u, .slice (some ⟨gc, 0, none⟩) 4 4]) (hC : Whole w gc 3 old) (hol : old.length = 4) (hs : Whole w gs 3 (nats [s0, o])) (hgs : gs ≠ gc) (hgc0 : gc ≠ 0) (hgb0 : gb ≠ 0)
    (hbuf : w.ownsRow 0 5 1 (.slice (some ⟨gb, 0, none⟩) 0 13) 0 (bts (es ds) 0))
    (hdl : ∀ x, x < 6 → RunsAt R (offs o b x) false (wid b (ps x))) (hmid : RunsAt R (o + 42 * b) false [b, b, b, b, b]) (hdr : ∀ x, x < 6 → RunsAt R (offs (o + 47 * b) b x) true (wid b (ds (7 + x)))) :
    Calls Tryz.prog 170 #[.pointer (some ⟨r, 0, none⟩), .pointer (some ⟨p, 0, none⟩), .slice (some ⟨gs, 0, none⟩) 2 2, .slice (some ⟨gb, 0, none⟩) 0 13] w fun e w' =>
      e = .returned (.tuple #[.int .i64 ((o + 89 * b : Nat) : Int), .slice (some ⟨gb, 0, none⟩) 13 13, .nilIface]) ∧ w'.ownsRow 0 5 1 (.slice (some ⟨gb, 0, none⟩) 13 13) 13 (bts ds 13) ∧ Kept [gc, gb] w w' := by
  have hsm := hB.small
  have hne1 : p ≠ gc := hB.head.ne hC (by decide)
  have hne2 : gw ≠ gc := hB.words.ne hC (by decide)
  have hne3 : gb ≠ p := own_ne hbuf hB.head (by decide)
  have hne4 : gb ≠ gw := own_ne hbuf hB.words (by decide)
  have hne5 : gb ≠ gc := own_ne hbuf hC (by decide)
  have hc0 : w.cell? ⟨r, 1, none⟩ = some (.slice (some ⟨gc, 0, none⟩) 4 4) := hr.cell 1
  have hm4 := (hmid).1
  simp only [List.sum_cons, List.sum_nil] at hm4
  match old, hol with
  | [v0, v1, v2, v3], _ =>
  have f0 := hC.frozen 0
  have f1 := hC.frozen 1
  have f2 := hC.frozen 2
  have f3 := hC.frozen 3
  have g0 : w.cell? ⟨gc, 0, none⟩ = some v0 := hC.cell 0
  have g1 : w.cell? ⟨gc, 1, none⟩ = some v1 := hC.cell 1
  have g2 : w.cell? ⟨gc, 2, none⟩ = some v2 := hC.cell 2
  have g3 : w.cell? ⟨gc, 3, none⟩ = some v3 := hC.cell 3
  have hC4 : Whole ((((w.setCell ⟨gc, 0, none⟩ (.int .i64 0)).setCell ⟨gc, 1, none⟩ (.int .i64 0)).setCell ⟨gc, 2, none⟩ (.int .i64 0)).setCell ⟨gc, 3, none⟩ (.int .i64 0)) gc 3 (nats [0, 0, 0, 0]) := (((hC.set 0 _).set 1 _).set 2 _).set 3 _
  have hK4 : Kept [gc, gb] w ((((w.setCell ⟨gc, 0, none⟩ (.int .i64 0)).setCell ⟨gc, 1, none⟩ (.int .i64 0)).setCell ⟨gc, 2, none⟩ (.int .i64 0)).setCell ⟨gc, 3, none⟩ (.int .i64 0)) :=
    ((((Kept.refl _ w).setCell (p := ⟨gc, 0, none⟩) (.inl (by simp)) _).setCell (p := ⟨gc, 1, none⟩) (.inl (by simp)) _).setCell (p := ⟨gc, 2, none⟩) (.inl (by simp)) _).setCell (p := ⟨gc, 3, none⟩) (.inl (by simp)) _
  have hK1 : Left' (some gc) w ((((w.setCell ⟨gc, 0, none⟩ (.int .i64 0)).setCell ⟨gc, 1, none⟩ (.int .i64 0)).setCell ⟨gc, 2, none⟩ (.int .i64 0)).setCell ⟨gc, 3, none⟩ (.int .i64 0)) :=
    ((((Left'.refl w (some gc)).setCell (p := ⟨gc, 0, none⟩) (.inl rfl) _).setCell (p := ⟨gc, 1, none⟩) (.inl rfl) _).setCell (p := ⟨gc, 2, none⟩) (.inl rfl) _).setCell (p := ⟨gc, 3, none⟩) (.inl rfl) _
  have hO4 := own_left hbuf hK1 (by simpa using hne5.symm)
  have hS4 := hs.left hK1 (by simpa using hgs.symm)
  have hB4 := hB.left hK1 (by simpa using hne1.symm) (by simpa using hne2.symm)
  have H0 := Lib.hid (And.intro hC4 (And.intro hK4 (And.intro hO4 (And.intro hS4 hB4))))
  have HB := Lib.hid hB
  have HD := Lib.hid (And.intro hdl (And.intro hmid hdr))
  have HT := Lib.hid hT
  have h0w : 0 < w.heap.size := by have := hB.head.lt; omega
  clear hC4 hK4 hK1 hO4 hS4 hB4 hB hC hr hs hbuf hdl hmid hdr hT
  go_enter Tryz.func170, Tryz.ntmps170
  go_wp2_with fail
  generalize (((w.setCell ⟨gc, 0, none⟩ (.int .i64 0)).setCell ⟨gc, 1, none⟩ (.int .i64 0)).setCell ⟨gc, 2, none⟩ (.int .i64 0)).setCell ⟨gc, 3, none⟩ (.int .i64 0) = w0 at H0 ⊢
  clear f0 f1 f2 f3 g0 g1 g2 g3 hc0
  refine (getSize_any p gw R w0 H0.out.2.2.2.2).mono ?_
  rintro e w' ⟨rfl, rfl⟩
  have hs1 : w0.cell? ⟨gs, 1, none⟩ = some (.int .i64 (o : Nat)) := H0.out.2.2.2.1.cell 1
  obtain ⟨i5, hi5, hz5, hz51, hz52⟩ := info_parts info5
  have HI := Lib.hid (And.intro hi5 hz51)
  clear hi5 hz5 hz51 hz52
  have HO3 := Lib.hid (H0.out.2.2.1.alloc (.cells #[.int .u8 48] 5))
  go_wp2_with (at_builtin; refine wpList_append_fits _ rfl (.tmp 45) (.tmp 46) 66 rfl 0 5 i5 1 Tryz.underlying66 HI.out.1 HI.out.2 gb 0 13 (bts (es ds) 0) rfl HO3.out ⟨w0.heap.size, 0, none⟩ 1 1 [.int .u8 48] rfl rfl ?_ ?_ ?_ ?_)
  · intro j v hj
    match j, hj with
    | 0, hj => simp at hj; subst hj; simp [Addr.add]
  · intro v hv; simp at hv; subst hv; rfl
  · omega
  intro w01 hO4 hL4
  have hK4 := (H0.out.2.1.alloc (.cells #[.int .u8 48] 5)).one hL4 (.inl (by simp))
  have hC4 := (H0.out.1.alloc (.cells #[.int .u8 48] 5)).left hL4 (by simpa using hne5)
  have M0 : MidSt w w01 gc gb (es ds) 1 := ⟨hO4, ⟨_, rfl, hC4⟩, hK4⟩
  have HM0 := Lib.hid M0
  clear hO4 hL4 hK4 hC4 HO3
  go_wp2
  clear hs1
  have hnp : p ∉ [gc, gb] := by simp; omega
  have hnw : gw ∉ [gc, gb] := by simp; omega
  clear M0 H0
  have HPS := Lib.hid (And.intro hps hmask)
  clear hps hmask
  go_loopw [3, 13, 14, 15] (fun a b' m i wr => ∃ x : Nat, x ≤ 6 ∧ a = .slice (some ⟨gb, 0, none⟩) (1 + x) 13 ∧ b' = .int .i64 (offs o b x) ∧ m = .int .i64 (mask ps x : Nat) ∧ i = .int .i64 x ∧ MidSt w wr gc gb (es ds) (1 + x)) (fun _ _ _ i _ => 6 - (intOf i).toNat)
  case atStart => exact ⟨0, by omega, rfl, by rw [offs_zero], rfl, rfl, HM0.out⟩
  case round =>
    clear HM0
    obtain ⟨x, hx, rfl, rfl, rfl, rfl, hM⟩ := hrel
    have HM := Lib.hid hM
    clear hM
    by_cases hx4 : x < 6
    · have hR := HD.out.1 x hx4
      have hlt := hR.1
      obtain ⟨hpx, hpm⟩ := HPS.out.1 x hx4
      rw [wid_sum b (ps x) hpx] at hlt
      have HR := Lib.hid hR
      have HOS := Lib.hid (offs_succ o b x)
      clear hR
      generalize hox : offs o b x = ox at *
      clear hox
      go_wp2_with fail
      refine (lgPats_any wr).mono ?_
      rintro e w1 ⟨gm, rfl, hMat, hL1⟩
      obtain ⟨old, ho1, ho2⟩ := HM.out.cnt
      have HK1 := Lib.hid (HM.out.kept.none hL1)
      have HO1 := Lib.hid (own_left HM.out.own hL1 (by simp))
      have HC1 := Lib.hid (ho2.left hL1 (by simp))
      have hgc := ho2.lt
      have HMat := Lib.hid hMat
      have HOL := Lib.hid ho1
      rw [show lgPats.length = 20 from rfl]
      clear hMat hL1 ho1 ho2
      go_wp2_with fail
      refine (digitLG_any p gw gc gm ox wr.heap.size b (ps x) false R old w1 hb hb4 hpx (HB.out.kept HK1.out hnp hnw) HC1.out HOL.out HMat.out hgc HR.out).mono ?_
      rintro e w2 ⟨rfl, hW2, hL2⟩
      have HK2 := Lib.hid (HK1.out.one hL2 (.inl (by simp)))
      have HO2 := Lib.hid (own_left HO1.out hL2 (by simpa using hne5.symm))
      have HW2 := Lib.hid hW2
      clear hW2 hL2 HO1 HC1 HMat HK1
      have hdx := hds (x + 1)
      have HWL := Lib.hid (wid_length b (ps x) hpx)
      have HWS := Lib.hid (wid_sum b (ps x) hpx)
      have HBS := Lib.hid (bts_succ (es ds) (1 + x))
      rw [show es ds (1 + x) = ds (x + 1) by rw [Nat.add_comm 1 x, es_succ]] at HBS
      have hpi : ((ps x : Nat) : Int) % 10 = (ds (x + 1) : Int) := by omega
      have HMS := Lib.hid (show mask ps (x + 1) = if 10 ≤ ps x then mask ps x ||| 2 ^ (5 - x) else mask ps x from rfl)
      have hml := mask_lt ps x (by omega)
      have HOR := Lib.hid (mask_or x hx4 (mask ps x) hml)
      clear hpm
      generalize hcs : wid b (ps x) = cs at *
      generalize hdv : ds (x + 1) = dv at *
      generalize hpv : ps x = px at *
      generalize hmv : mask ps x = mx at *
      clear hcs hdv hpv hmv
      have HO3 := Lib.hid (HO2.out.alloc (.cells #[.int .u8 (48 + (dv : Int))] 5))
      go_wp2_with (at_builtin; refine wpList_append_fits _ rfl (.tmp 70) (.tmp 75) 66 rfl 0 5 i5 1 Tryz.underlying66 HI.out.1 HI.out.2 gb (1 + x) 13 (bts (es ds) (1 + x)) rfl HO3.out ⟨w2.heap.size, 0, none⟩ 1 1 [.int .u8 (48 + (dv : Int))] rfl rfl ?_ ?_ ?_ ?_)
      · intro j v hj
        match j, hj with
        | 0, hj => simp at hj; subst hj; simp [Addr.add]
      · intro v hv; simp at hv; subst hv; rfl
      · omega
      intro w3 hO4 hL4
      have hK3 := HK2.out.alloc (.cells #[.int .u8 (48 + (dv : Int))] 5)
      have HK4 := Lib.hid (hK3.one hL4 (.inl (by simp)))
      have e48 : Value.int .u8 (48 + (dv : Int)) = .int .u8 ((48 + dv : Nat) : Int) := by simp
      rw [e48, HBS.out] at hO4
      have HO4 := Lib.hid hO4
      have hW3 := (HW2.out.alloc (.cells #[.int .u8 (48 + (dv : Int))] 5)).left hL4 (by simpa using hne5)
      have HW3 := Lib.hid hW3
      clear hO4 hL4 hK3 e48 hW3 HO3 HO2 HW2 HK2
      go_wp2
      obtain ⟨wo, rfl⟩ : ∃ wo : World, wo = w3 := ⟨_, rfl⟩
      go_loop [13, 79] (fun c j => ∃ k : Nat, k ≤ 4 ∧ c = .int .i64 ((ox + sumN cs k : Nat) : Int) ∧ j = .int .i64 k) (fun _ j => 4 - (intOf j).toNat)
      case atStart => exact ⟨0, by omega, rfl, rfl⟩
      case round =>
        obtain ⟨k, hk, rfl, rfl⟩ := hrel
        have hle := sumN_le cs k
        rw [HWS.out] at hle
        by_cases hk4 : k < 4
        · have hcell := HW3.out.cell k
          rw [nats_get _ _ (by rw [HWL.out]; exact hk4)] at hcell
          have hle2 := sumN_le cs (k + 1)
          rw [HWS.out, sumN_succ] at hle2
          have HSS := Lib.hid (sumN_succ cs k)
          generalize hcv : cs.getD k 0 = cv at *
          generalize hsv : sumN cs k = sv at *
          clear hcv hsv
          go_wp2
          go_round
          case rel => exact ⟨k + 1, by omega, by rw [HSS.out]; go_num, by go_num⟩
          case measure => simp [intOf]; omega
        · have hk' : k = 4 := by omega
          subst hk'
          have hs4 := sumN_all cs 4 HWL.out
          rw [HWS.out] at hs4
          rw [hs4]
          clear hs4 hle
          by_cases h10 : 10 ≤ px
          · have HMS2 := HMS.out
            rw [if_pos h10] at HMS2
            have HMS3 := Lib.hid HMS2
            clear HMS2 HMS
            go_wp2
            go_roundw
            case rel => exact ⟨x + 1, by omega, rfl, by rw [HOS.out], by rw [HMS3.out, ← HOR.out, wrap_pow x hx4], by go_num, ⟨HO4.out, ⟨_, by simp [nats, HWL.out], HW3.out⟩, HK4.out⟩⟩
            case measure => simp [intOf]; omega
          · have HMS2 := HMS.out
            rw [if_neg h10] at HMS2
            have HMS3 := Lib.hid HMS2
            clear HMS2 HMS
            go_wp2
            go_roundw
            case rel => exact ⟨x + 1, by omega, rfl, by rw [HOS.out], by rw [HMS3.out], by go_num, ⟨HO4.out, ⟨_, by simp [nats, HWL.out], HW3.out⟩, HK4.out⟩⟩
            case measure => simp [intOf]; omega
    · have hx' : x = 6 := by omega
      subst hx'
      obtain ⟨q, hq⟩ : ∃ q, q = o + 42 * b := ⟨_, rfl⟩
      have e28 : offs o b 6 = q := by rw [hq]; simp only [offs]; omega
      rw [e28]
      have hmid := HD.out.2.1
      rw [← hq] at hmid
      have HMID := Lib.hid hmid
      have hqb := hmid.1
      simp only [List.sum_cons, List.sum_nil] at hqb
      have HQ := Lib.hid hq
      clear e28 hq hmid
      rw [HPS.out.2]
      go_wp2_with fail
      refine (firstDigit_any (ds 0) wr (hds 0)).mono ?_
      rintro e w5 ⟨rfl, hL5⟩
      have hO5 := own_left HM.out.own hL5 (by simp)
      have hK5 := HM.out.kept.none hL5
      obtain ⟨old, ho1, ho2⟩ := HM.out.cnt
      have hC5 := ho2.left hL5 (by simp)
      have hd0 := hds 0
      have hc48 : w5.cell? ⟨gb, 0, none⟩ = some (.int .u8 48) := own_cells5 hO5 0 (by omega)
      have hf48 := own_frozen hO5 0
      have hO6 := own_set (v := .int .u8 ((48 + ds 0 : Nat) : Int)) hO5 (show 0 < 1 + 6 by omega)
      rw [show 1 + 6 = 6 + 1 from rfl, bts_first] at hO6
      have hK6 := hK5.setCell (p := ⟨gb, 0, none⟩) (.inl (by simp)) (.int .u8 ((48 + ds 0 : Nat) : Int))
      have hC6 := hC5.far (p := ⟨gb, 0, none⟩) (show gc ≠ gb from fun e => hne5 e.symm) (.int .u8 ((48 + ds 0 : Nat) : Int))
      have e48 : ((48 + ds 0 : Nat) : Int) = 48 + (ds 0 : Int) := by omega
      rw [e48] at hO6 hK6 hC6
      have H6 := Lib.hid (And.intro hO6 (And.intro hK6 hC6))
      clear hO5 hK5 hC5 hO6 hK6 hC6 e48 hL5 ho2
      go_wp2_with fail
      clear hc48 hf48
      generalize World.setCell _ _ _ = w6 at H6 ⊢
      refine (middle_any w6).mono ?_
      rintro e w1 ⟨gp, rfl, hW1, hgp, hL1⟩
      have HK1 := Lib.hid (H6.out.2.1.none hL1)
      have HO1 := Lib.hid (own_left H6.out.1 hL1 (by simp))
      have HC1 := Lib.hid (H6.out.2.2.left hL1 (by simp))
      have HOL := Lib.hid ho1
      have HW1 := Lib.hid hW1
      have hsz1 := HK1.out.size
      clear hW1 hL1 ho1 H6 HM
      obtain ⟨v, hv1, hv2⟩ := ones_pmv b 5 hb hb4 (by omega)
      have HV := Lib.hid (And.intro hv1 hv2)
      clear hv1 hv2
      go_wp2_with fail
      refine (find_any p gw gp q q 5 v true R [b, b, b, b, b] w1 (HB.out.kept HK1.out hnp hnw) (tab_kept HT.out HK1.out h0w (by simp; omega)) HW1.out (by omega) rfl (by simpa using hb) (by simp; omega) (Nat.le_refl _) (fun i h1 h2 => by omega) HMID.out HV.out.1 HV.out.2).mono ?_
      rintro e w2 ⟨gf, rfl, hW2, hz2, hL2⟩
      have e33 : q + [b, b, b, b, b].sum = o + 47 * b := by rw [HQ.out]; simp; omega
      rw [e33] at hW2
      clear e33
      obtain ⟨o2, ho2⟩ : ∃ o2, o2 = o + 47 * b := ⟨_, rfl⟩
      rw [← ho2] at hW2
      have HK2 := Lib.hid (HK1.out.none hL2)
      have HO2 := Lib.hid (own_left HO1.out hL2 (by simp))
      have HC2 := Lib.hid (HC1.out.left hL2 (by simp))
      have hcf : w2.cell? ⟨gf, 1, none⟩ = some (.int .i64 (o2 : Nat)) := hW2.cell 1
      have HD2 := Lib.hid HD.out.2.2
      rw [← ho2] at HD2
      have HE2 := Lib.hid ho2
      clear hW2 hL2 HK1 HO1 HC1 HW1 ho2
      go_wp2
      clear hcf
      have M2 : MidSt w w2 gc gb ds 7 := ⟨HO2.out, ⟨_, HOL.out, HC2.out⟩, HK2.out⟩
      have HM2 := Lib.hid M2
      clear M2 HO2 HC2 HK2
      go_loopw [3, 13, 23] (fun a b' i wr => ∃ x : Nat, x ≤ 6 ∧ a = .slice (some ⟨gb, 0, none⟩) (7 + x) 13 ∧ b' = .int .i64 (offs o2 b x) ∧ i = .int .i64 x ∧ MidSt w wr gc gb ds (7 + x)) (fun _ _ i _ => 6 - (intOf i).toNat)
      case atStart => exact ⟨0, by omega, rfl, by rw [offs_zero], rfl, HM2.out⟩
      case round =>
        clear HM2
        obtain ⟨x, hx, rfl, rfl, rfl, hM⟩ := hrel
        have HM := Lib.hid hM
        clear hM
        by_cases hx4 : x < 6
        · have hR := HD2.out x hx4
          have hlt := hR.1
          rw [wid_sum b (ds (7 + x)) (by have := hds (7 + x); omega)] at hlt
          have HR := Lib.hid hR
          have HOS := Lib.hid (offs_succ o2 b x)
          clear hR
          generalize hox : offs o2 b x = ox at *
          clear hox
          go_wp2_with fail
          refine (lPats_any wr).mono ?_
          rintro e w1 ⟨gm, rfl, hMat, hL1⟩
          obtain ⟨old, ho1, ho2⟩ := HM.out.cnt
          have HK1 := Lib.hid (HM.out.kept.none hL1)
          have HO1 := Lib.hid (own_left HM.out.own hL1 (by simp))
          have HC1 := Lib.hid (ho2.left hL1 (by simp))
          have hgc := ho2.lt
          have HMat := Lib.hid hMat
          have HOL := Lib.hid ho1
          clear hMat hL1 ho1 ho2
          go_wp2_with fail
          refine (digitL_any p gw gc gm ox wr.heap.size b (ds (7 + x)) true R old w1 hb hb4 (hds (7 + x)) (HB.out.kept HK1.out hnp hnw) HC1.out HOL.out HMat.out hgc HR.out).mono ?_
          rintro e w2 ⟨rfl, hW2, hL2⟩
          have HK2 := Lib.hid (HK1.out.one hL2 (.inl (by simp)))
          have HO2 := Lib.hid (own_left HO1.out hL2 (by simpa using hne5.symm))
          have HW2 := Lib.hid hW2
          clear hW2 hL2 HO1 HC1 HMat HK1
          have hdx := hds (7 + x)
          have HWL := Lib.hid (wid_length b (ds (7 + x)) (by omega))
          have HWS := Lib.hid (wid_sum b (ds (7 + x)) (by omega))
          have HBS := Lib.hid (bts_succ ds (7 + x))
          generalize hcs : wid b (ds (7 + x)) = cs at *
          generalize hdv : ds (7 + x) = dv at *
          clear hcs hdv
          have HO3 := Lib.hid (HO2.out.alloc (.cells #[.int .u8 (48 + (dv : Int))] 5))
          go_wp2_with (at_builtin; refine wpList_append_fits _ rfl (.tmp 147) (.tmp 151) 66 rfl 0 5 i5 1 Tryz.underlying66 HI.out.1 HI.out.2 gb (7 + x) 13 (bts ds (7 + x)) rfl HO3.out ⟨w2.heap.size, 0, none⟩ 1 1 [.int .u8 (48 + (dv : Int))] rfl rfl ?_ ?_ ?_ ?_)
          · intro j v hj
            match j, hj with
            | 0, hj => simp at hj; subst hj; simp [Addr.add]
          · intro v hv; simp at hv; subst hv; rfl
          · omega
          intro w3 hO4 hL4
          have hK3 := HK2.out.alloc (.cells #[.int .u8 (48 + (dv : Int))] 5)
          have HK4 := Lib.hid (hK3.one hL4 (.inl (by simp)))
          have e48 : Value.int .u8 (48 + (dv : Int)) = .int .u8 ((48 + dv : Nat) : Int) := by simp
          rw [e48, HBS.out] at hO4
          have HO4 := Lib.hid hO4
          have hW3 := (HW2.out.alloc (.cells #[.int .u8 (48 + (dv : Int))] 5)).left hL4 (by simpa using hne5)
          have HW3 := Lib.hid hW3
          clear hO4 hL4 hK3 e48 hW3 HO3 HO2 HW2 HK2
          go_wp2
          obtain ⟨wo, rfl⟩ : ∃ wo : World, wo = w3 := ⟨_, rfl⟩
          go_loop [13, 155] (fun c j => ∃ k : Nat, k ≤ 4 ∧ c = .int .i64 ((ox + sumN cs k : Nat) : Int) ∧ j = .int .i64 k) (fun _ j => 4 - (intOf j).toNat)
          case atStart => exact ⟨0, by omega, rfl, rfl⟩
          case round =>
            obtain ⟨k, hk, rfl, rfl⟩ := hrel
            have hle := sumN_le cs k
            rw [HWS.out] at hle
            by_cases hk4 : k < 4
            · have hcell := HW3.out.cell k
              rw [nats_get _ _ (by rw [HWL.out]; exact hk4)] at hcell
              have hle2 := sumN_le cs (k + 1)
              rw [HWS.out, sumN_succ] at hle2
              have HSS := Lib.hid (sumN_succ cs k)
              generalize hcv : cs.getD k 0 = cv at *
              generalize hsv : sumN cs k = sv at *
              clear hcv hsv
              go_wp2
              go_round
              case rel => exact ⟨k + 1, by omega, by rw [HSS.out]; go_num, by go_num⟩
              case measure => simp [intOf]; omega
            · have hk' : k = 4 := by omega
              subst hk'
              have hs4 := sumN_all cs 4 HWL.out
              rw [HWS.out] at hs4
              rw [hs4]
              clear hs4 hle
              go_wp2
              go_roundw
              case rel => exact ⟨x + 1, by omega, rfl, by rw [HOS.out], by go_num, ⟨HO4.out, ⟨_, by simp [nats, HWL.out], HW3.out⟩, HK4.out⟩⟩
              case measure => simp [intOf]; omega
        · have hx' : x = 6 := by omega
          subst hx'
          have e61 : offs o2 b 6 = o + 89 * b := by rw [HE2.out]; simp only [offs]; omega
          have HE := Lib.hid e61
          go_wp2
          go_ret3
          refine ⟨?_, HM.out.own, HM.out.kept⟩
          rw [← HE.out]
          rfl
end Go.Proofs.YtojngchcghabiaaGreatDoor
