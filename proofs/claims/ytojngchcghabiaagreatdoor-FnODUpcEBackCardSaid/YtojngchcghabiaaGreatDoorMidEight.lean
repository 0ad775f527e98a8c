/-
  The walk over the EAN-8 reader's decodeMiddle: where the row goes on in the runs of eight digits, a guard in their middle, it answers them.
-/
import Derived.Test.YtojngchcghabiaaGreatDoorKept
namespace Go.Proofs.YtojngchcghabiaaGreatDoor
open Go Go.RowKit

theorem Tryz.underlying66 : Tryz.prog.underlying 66 = some (.slice 5) := by kernel_rfl
theorem info5 : (Tryz.prog.info? 5).map (fun i => (i.zero, i.size, i.bytes)) = some (some (.int .u8 0), 1, 1) := by kernel_rfl

/-- Where the x-th digit of seven modules begins. -/
def offs (o b x : Nat) : Nat := o + 7 * b * x
theorem offs_zero (o b : Nat) : offs o b 0 = o := by simp [offs]
theorem offs_succ (o b x : Nat) : offs o b (x + 1) = offs o b x + 7 * b := by simp only [offs, Nat.mul_add, Nat.mul_one]; omega
/-- The sum of the first j. -/
def sumN (cs : List Nat) (j : Nat) : Nat := (cs.take j).sum
theorem sumN_zero (cs : List Nat) : sumN cs 0 = 0 := rfl
theorem sumN_succ (l : List Nat) (k : Nat) : sumN l (k + 1) = sumN l k + l.getD k 0 := by
  unfold sumN
  induction l generalizing k with
  | nil => simp
  | cons a l ih =>
    cases k with
    | zero => simp
    | succ k => simp only [List.take_succ_cons, List.sum_cons, List.getD_cons_succ, ih k]; omega
theorem sumN_all (l : List Nat) (n : Nat) (h : l.length = n) : sumN l n = l.sum := by unfold sumN; rw [← h, List.take_length]
theorem sumN_le (l : List Nat) (k : Nat) : sumN l k ≤ l.sum := by
  unfold sumN
  induction l generalizing k with
  | nil => simp
  | cons a l ih =>
    cases k with
    | zero => simp
    | succ k => simp only [List.take_succ_cons, List.sum_cons]; have := ih k; omega

/-- Digits as bytes. -/
def bts (ds : Nat → Nat) (n : Nat) : List Value := (List.range n).map fun i => .int .u8 ((48 + ds i : Nat) : Int)
theorem bts_succ (ds : Nat → Nat) (n : Nat) : bts ds n ++ [.int .u8 ((48 + ds n : Nat) : Int)] = bts ds (n + 1) := by
  simp [bts, List.range_succ]
theorem bts_length (ds : Nat → Nat) (n : Nat) : (bts ds n).length = n := by simp [bts]

theorem own_block {w : World} {base e size g n c : Nat} {xs : List Value} (h : w.ownsRow base e size (.slice (some ⟨g, 0, none⟩) n c) n xs) : ∃ cur, w.heap[g]? = some (.cells cur e (0, 0)) := by
  rcases h.2 with ⟨e1, _⟩ | ⟨g', cap, cur, hv, hg, hh, r⟩
  · cases e1
  · injection hv with hv1 hv2 hv3
    injection hv1 with hv1
    injection hv1 with hv1
    subst hv1
    exact ⟨cur, hh⟩
theorem own_ne {w : World} {base e size g n c g' t : Nat} {xs cs : List Value} (h : w.ownsRow base e size (.slice (some ⟨g, 0, none⟩) n c) n xs) (h' : Whole w g' t cs) (hne : e ≠ t) : g ≠ g' := by
  rintro rfl
  obtain ⟨cur, hh⟩ := own_block h
  unfold Whole at h'
  rw [hh] at h'
  injection h' with h'
  injection h' with _ h'
  exact hne h'

theorem ones_pmv (b n : Nat) (hb : 0 < b) (hb4 : b ≤ 4) (hn : n = 3 ∨ n = 5 ∨ n = 6) : ∃ v, pmv ((List.replicate n b).map fun (k : Nat) => (k : Int)) (List.replicate n 1) = some v ∧ (fOrd v maxAvg == some .lt) = true := by
  have h := allOnes_true
  unfold allOnes at h
  rw [List.all_eq_true] at h
  have h2 := h (b : Int) (by
    have : b = 1 ∨ b = 2 ∨ b = 3 ∨ b = 4 := by omega
    rcases this with rfl | rfl | rfl | rfl <;> simp)
  rw [List.all_eq_true] at h2
  have h3 := h2 n (by simp only [List.mem_cons, List.not_mem_nil, or_false]; exact hn)
  rw [List.map_replicate]
  split at h3
  · rename_i v hv; exact ⟨v, hv, h3⟩
  · cases h3

/-- What the digits' loops hold of memory: so many digits lie in the buffer; the counters are there; nothing else has turned. -/
structure MidSt (w wr : World) (gc gb : Nat) (ds : Nat → Nat) (x : Nat) : Prop where
  own : wr.ownsRow 0 5 1 (.slice (some ⟨gb, 0, none⟩) x 13) x (bts ds x)
  cnt : ∃ old, old.length = 4 ∧ Whole wr gc 3 old
  kept : Kept [gc, gb] w wr

set_option maxRecDepth 100000 in
set_option maxHeartbeats 4000000 in
theorem mid8_any (p gw r gc gb gs o b s0 : Nat) (u : Value) (ds : Nat → Nat) (R : List Bool) (old : List Value) (w : World) (hb : 0 < b) (hb4 : b ≤ 4) (hds : ∀ i, ds i < 10)
    (hB : Bits w p gw R) (hT : Tab w) (hr : Whole w r 56 [u, .slice (some ⟨gc, 0, none⟩) 4 4]) (hC : Whole w gc 3 old) (hol : old.length = 4) (hs : Whole w gs 3 (nats [s0, o])) (hgs : gs ≠ gc) (hgc0 : gc ≠ 0) (hgb0 : gb ≠ 0)
    (hbuf : w.ownsRow 0 5 1 (.slice (some ⟨gb, 0, none⟩) 0 13) 0 (bts ds 0))
    (hdl : ∀ x, x < 4 → RunsAt R (offs o b x) false (wid b (ds x))) (hmid : RunsAt R (o + 28 * b) false [b, b, b, b, b]) (hdr : ∀ x, x < 4 → RunsAt R (offs (o + 33 * b) b x) true (wid b (ds (4 + x)))) :
    Calls Tryz.prog 154 #[.pointer (some ⟨r, 0, none⟩), .pointer (some ⟨p, 0, none⟩), .slice (some ⟨gs, 0, none⟩) 2 2, .slice (some ⟨gb, 0, none⟩) 0 13] w fun e w' =>
      e = .returned (.tuple #[.int .i64 ((o + 61 * b : Nat) : Int), .slice (some ⟨gb, 0, none⟩) 8 13, .nilIface]) ∧ w'.ownsRow 0 5 1 (.slice (some ⟨gb, 0, none⟩) 8 13) 8 (bts ds 8) ∧ Kept [gc, gb] w w' := by
  have hsm := hB.small
  have hne1 : p ≠ gc := hB.head.ne hC (by decide)
  have hne2 : gw ≠ gc := hB.words.ne hC (by decide)
  have hne3 : gb ≠ p := own_ne hbuf hB.head (by decide)
  have hne4 : gb ≠ gw := own_ne hbuf hB.words (by decide)
  have hne5 : gb ≠ gc := own_ne hbuf hC (by decide)
  have hc0 : w.cell? ⟨r, 1, none⟩ = some (.slice (some ⟨gc, 0, none⟩) 4 4) := hr.cell 1
  have hm4 := (hmid).1
  simp only [List.sum_cons, List.sum_nil] at hm4
  match old, hol with
  | [v0, v1, v2, v3], _ =>
  have f0 := hC.frozen 0
  have f1 := hC.frozen 1
  have f2 := hC.frozen 2
  have f3 := hC.frozen 3
  have g0 : w.cell? ⟨gc, 0, none⟩ = some v0 := hC.cell 0
  have g1 : w.cell? ⟨gc, 1, none⟩ = some v1 := hC.cell 1
  have g2 : w.cell? ⟨gc, 2, none⟩ = some v2 := hC.cell 2
  have g3 : w.cell? ⟨gc, 3, none⟩ = some v3 := hC.cell 3
  have hC4 : Whole ((((w.setCell ⟨gc, 0, none⟩ (.int .i64 0)).setCell ⟨gc, 1, none⟩ (.int .i64 0)).setCell ⟨gc, 2, none⟩ (.int .i64 0)).setCell ⟨gc, 3, none⟩ (.int .i64 0)) gc 3 (nats [0, 0, 0, 0]) := (((hC.set 0 _).set 1 _).set 2 _).set 3 _
  have hK4 : Kept [gc, gb] w ((((w.setCell ⟨gc, 0, none⟩ (.int .i64 0)).setCell ⟨gc, 1, none⟩ (.int .i64 0)).setCell ⟨gc, 2, none⟩ (.int .i64 0)).setCell ⟨gc, 3, none⟩ (.int .i64 0)) :=
    ((((Kept.refl _ w).setCell (p := ⟨gc, 0, none⟩) (.inl (by simp)) _).setCell (p := ⟨gc, 1, none⟩) (.inl (by simp)) _).setCell (p := ⟨gc, 2, none⟩) (.inl (by simp)) _).setCell (p := ⟨gc, 3, none⟩) (.inl (by simp)) _
  have hK1 : Left' (some gc) w ((((w.setCell ⟨gc, 0, none⟩ (.int .i64 0)).setCell ⟨gc, 1, none⟩ (.int .i64 0)).setCell ⟨gc, 2, none⟩ (.int .i64 0)).setCell ⟨gc, 3, none⟩ (.int .i64 0)) :=
    ((((Left'.refl w (some gc)).setCell (p := ⟨gc, 0, none⟩) (.inl rfl) _).setCell (p := ⟨gc, 1, none⟩) (.inl rfl) _).setCell (p := ⟨gc, 2, none⟩) (.inl rfl) _).setCell (p := ⟨gc, 3, none⟩) (.inl rfl) _
  have hO4 := own_left hbuf hK1 (by simpa using hne5.symm)
  have hS4 := hs.left hK1 (by simpa using hgs.symm)
  have hB4 := hB.left hK1 (by simpa using hne1.symm) (by simpa using hne2.symm)
  have H0 := Lib.hid (And.intro hC4 (And.intro hK4 (And.intro hO4 (And.intro hS4 hB4))))
  have HB := Lib.hid hB
  have HD := Lib.hid (And.intro hdl (And.intro hmid hdr))
  have HT := Lib.hid hT
  have h0w : 0 < w.heap.size := by have := hB.head.lt; omega
  clear hC4 hK4 hK1 hO4 hS4 hB4 hB hC hr hs hbuf hdl hmid hdr hT
  go_enter Tryz.func154, Tryz.ntmps154
  go_wp2_with fail
  generalize (((w.setCell ⟨gc, 0, none⟩ (.int .i64 0)).setCell ⟨gc, 1, none⟩ (.int .i64 0)).setCell ⟨gc, 2, none⟩ (.int .i64 0)).setCell ⟨gc, 3, none⟩ (.int .i64 0) = w0 at H0 ⊢
  clear f0 f1 f2 f3 g0 g1 g2 g3 hc0
  refine (getSize_any p gw R w0 H0.out.2.2.2.2).mono ?_
  rintro e w' ⟨rfl, rfl⟩
  have hs1 : w0.cell? ⟨gs, 1, none⟩ = some (.int .i64 (o : Nat)) := H0.out.2.2.2.1.cell 1
  go_wp2
  clear hs1
  obtain ⟨i5, hi5, hz5, hz51, hz52⟩ := info_parts info5
  have HI := Lib.hid (And.intro hi5 hz51)
  clear hi5 hz5 hz51 hz52
  have M0 : MidSt w w0 gc gb ds 0 := ⟨H0.out.2.2.1, ⟨_, rfl, H0.out.1⟩, H0.out.2.1⟩
  have HM0 := Lib.hid M0
  have hnp : p ∉ [gc, gb] := by simp; omega
  have hnw : gw ∉ [gc, gb] := by simp; omega
  clear M0 H0
  go_loopw [3, 13, 14] (fun a b' i wr => ∃ x : Nat, x ≤ 4 ∧ a = .slice (some ⟨gb, 0, none⟩) x 13 ∧ b' = .int .i64 (offs o b x) ∧ i = .int .i64 x ∧ MidSt w wr gc gb ds x) (fun _ _ i _ => 4 - (intOf i).toNat)
  case atStart => exact ⟨0, by omega, rfl, by rw [offs_zero], rfl, HM0.out⟩
  case round =>
    clear HM0
    obtain ⟨x, hx, rfl, rfl, rfl, hM⟩ := hrel
    have HM := Lib.hid hM
    clear hM
    by_cases hx4 : x < 4
    · have hR := HD.out.1 x hx4
      have hlt := hR.1
      rw [wid_sum b (ds x) (by have := hds x; omega)] at hlt
      have HR := Lib.hid hR
      have HOS := Lib.hid (offs_succ o b x)
      clear hR
      generalize hox : offs o b x = ox at *
      clear hox
      have hk1 : Left' none wr wr := Left'.refl _ _
      clear hk1
      go_wp2_with fail
      refine (lPats_any wr).mono ?_
      rintro e w1 ⟨gm, rfl, hMat, hL1⟩
      obtain ⟨old, ho1, ho2⟩ := HM.out.cnt
      have HK1 := Lib.hid (HM.out.kept.none hL1)
      have HO1 := Lib.hid (own_left HM.out.own hL1 (by simp))
      have HC1 := Lib.hid (ho2.left hL1 (by simp))
      have hgc := ho2.lt
      have HMat := Lib.hid hMat
      have HOL := Lib.hid ho1
      clear hMat hL1 ho1 ho2
      go_wp2_with fail
      refine (digitL_any p gw gc gm ox wr.heap.size b (ds x) false R old w1 hb hb4 (hds x) (HB.out.kept HK1.out hnp hnw) HC1.out HOL.out HMat.out hgc HR.out).mono ?_
      rintro e w2 ⟨rfl, hW2, hL2⟩
      have HK2 := Lib.hid (HK1.out.one hL2 (.inl (by simp)))
      have HO2 := Lib.hid (own_left HO1.out hL2 (by simpa using hne5.symm))
      have HW2 := Lib.hid hW2
      clear hW2 hL2 HO1 HC1 HMat HK1
      have hdx := hds x
      have HO3 := Lib.hid (HO2.out.alloc (.cells #[.int .u8 (48 + (ds x : Int))] 5))
      go_wp2_with (at_builtin; refine wpList_append_fits _ rfl (.tmp 65) (.tmp 69) 66 rfl 0 5 i5 1 Tryz.underlying66 HI.out.1 HI.out.2 gb x 13 (bts ds x) rfl HO3.out ⟨w2.heap.size, 0, none⟩ 1 1 [.int .u8 (48 + (ds x : Int))] rfl rfl ?_ ?_ ?_ ?_)
      · intro j v hj
        match j, hj with
        | 0, hj => simp at hj; subst hj; simp [Addr.add]
      · intro v hv; simp at hv; subst hv; rfl
      · omega
      intro w3 hO4 hL4
      have hK3 := HK2.out.alloc (.cells #[.int .u8 (48 + (ds x : Int))] 5)
      have HK4 := Lib.hid (hK3.one hL4 (.inl (by simp)))
      have e48 : Value.int .u8 (48 + (ds x : Int)) = .int .u8 ((48 + ds x : Nat) : Int) := by simp
      rw [e48, bts_succ] at hO4
      have HO4 := Lib.hid hO4
      have hW3 := (HW2.out.alloc (.cells #[.int .u8 (48 + (ds x : Int))] 5)).left hL4 (by simpa using hne5)
      have HW3 := Lib.hid hW3
      clear hO4 hL4 hK3 e48 hW3 HO3 HO2 HW2 HK2
      go_wp2
      obtain ⟨wo, rfl⟩ : ∃ wo : World, wo = w3 := ⟨_, rfl⟩
      have HWL := Lib.hid (wid_length b (ds x) (by omega))
      have HWS := Lib.hid (wid_sum b (ds x) (by omega))
      go_loop [13, 73] (fun c j => ∃ k : Nat, k ≤ 4 ∧ c = .int .i64 ((ox + sumN (wid b (ds x)) k : Nat) : Int) ∧ j = .int .i64 k) (fun _ j => 4 - (intOf j).toNat)
      case atStart => exact ⟨0, by omega, rfl, rfl⟩
      case round =>
        obtain ⟨k, hk, rfl, rfl⟩ := hrel
        have hle := sumN_le (wid b (ds x)) k
        rw [HWS.out] at hle
        by_cases hk4 : k < 4
        · have hcell := HW3.out.cell k
          rw [nats_get _ _ (by rw [HWL.out]; exact hk4)] at hcell
          have hle2 := sumN_le (wid b (ds x)) (k + 1)
          rw [HWS.out, sumN_succ] at hle2
          have HSS := Lib.hid (sumN_succ (wid b (ds x)) k)
          generalize hcv : (wid b (ds x)).getD k 0 = cv at *
          generalize hsv : sumN (wid b (ds x)) k = sv at *
          clear hcv hsv
          go_wp2
          go_round
          case rel => exact ⟨k + 1, by omega, by rw [HSS.out]; go_num, by go_num⟩
          case measure => simp [intOf]; omega
        · have hk' : k = 4 := by omega
          subst hk'
          have hs4 := sumN_all (wid b (ds x)) 4 HWL.out
          rw [HWS.out] at hs4
          rw [hs4]
          clear hs4 hle
          go_wp2
          go_roundw
          case rel => exact ⟨x + 1, by omega, rfl, by rw [HOS.out], by go_num, ⟨HO4.out, ⟨_, by simp [nats, HWL.out], HW3.out⟩, HK4.out⟩⟩
          case measure => simp [intOf]; omega
    · have hx' : x = 4 := by omega
      subst hx'
      obtain ⟨q, hq⟩ : ∃ q, q = o + 28 * b := ⟨_, rfl⟩
      have e28 : offs o b 4 = q := by rw [hq]; simp only [offs]; omega
      rw [e28]
      have hmid := HD.out.2.1
      rw [← hq] at hmid
      have HMID := Lib.hid hmid
      have hqb := hmid.1
      simp only [List.sum_cons, List.sum_nil] at hqb
      have HQ := Lib.hid hq
      clear e28 hq hmid
      go_wp2_with fail
      refine (middle_any wr).mono ?_
      rintro e w1 ⟨gp, rfl, hW1, hgp, hL1⟩
      have HK1 := Lib.hid (HM.out.kept.none hL1)
      have HO1 := Lib.hid (own_left HM.out.own hL1 (by simp))
      obtain ⟨old, ho1, ho2⟩ := HM.out.cnt
      have HC1 := Lib.hid (ho2.left hL1 (by simp))
      have HOL := Lib.hid ho1
      have HW1 := Lib.hid hW1
      have hsz1 := HK1.out.size
      clear hW1 hL1 ho1 ho2
      obtain ⟨v, hv1, hv2⟩ := ones_pmv b 5 hb hb4 (by omega)
      have HV := Lib.hid (And.intro hv1 hv2)
      clear hv1 hv2
      go_wp2_with fail
      refine (find_any p gw gp q q 5 v true R [b, b, b, b, b] w1 (HB.out.kept HK1.out hnp hnw) (tab_kept HT.out HK1.out h0w (by simp; omega)) HW1.out (by omega) rfl (by simpa using hb) (by simp; omega) (Nat.le_refl _) (fun i h1 h2 => by omega) HMID.out HV.out.1 HV.out.2).mono ?_
      rintro e w2 ⟨gf, rfl, hW2, hz2, hL2⟩
      have e33 : q + [b, b, b, b, b].sum = o + 33 * b := by rw [HQ.out]; simp; omega
      rw [e33] at hW2
      clear e33
      obtain ⟨o2, ho2⟩ : ∃ o2, o2 = o + 33 * b := ⟨_, rfl⟩
      rw [← ho2] at hW2
      have HK2 := Lib.hid (HK1.out.none hL2)
      have HO2 := Lib.hid (own_left HO1.out hL2 (by simp))
      have HC2 := Lib.hid (HC1.out.left hL2 (by simp))
      have hcf : w2.cell? ⟨gf, 1, none⟩ = some (.int .i64 (o2 : Nat)) := hW2.cell 1
      have HD2 := Lib.hid HD.out.2.2
      rw [← ho2] at HD2
      have HE2 := Lib.hid ho2
      clear hW2 hL2 HK1 HO1 HC1 HW1 ho2
      go_wp2
      clear hcf
      have M2 : MidSt w w2 gc gb ds 4 := ⟨HO2.out, ⟨_, HOL.out, HC2.out⟩, HK2.out⟩
      have HM2 := Lib.hid M2
      clear M2 HO2 HC2 HK2
      go_loopw [3, 13, 21] (fun a b' i wr => ∃ x : Nat, x ≤ 4 ∧ a = .slice (some ⟨gb, 0, none⟩) (4 + x) 13 ∧ b' = .int .i64 (offs o2 b x) ∧ i = .int .i64 x ∧ MidSt w wr gc gb ds (4 + x)) (fun _ _ i _ => 4 - (intOf i).toNat)
      case atStart => exact ⟨0, by omega, rfl, by rw [offs_zero], rfl, HM2.out⟩
      case round =>
        clear HM2 HM
        obtain ⟨x, hx, rfl, rfl, rfl, hM⟩ := hrel
        have HM := Lib.hid hM
        clear hM
        by_cases hx4 : x < 4
        · have hR := HD2.out x hx4
          have hlt := hR.1
          rw [wid_sum b (ds (4 + x)) (by have := hds (4 + x); omega)] at hlt
          have HR := Lib.hid hR
          have HOS := Lib.hid (offs_succ o2 b x)
          clear hR
          generalize hox : offs o2 b x = ox at *
          clear hox
          go_wp2_with fail
          refine (lPats_any wr).mono ?_
          rintro e w1 ⟨gm, rfl, hMat, hL1⟩
          obtain ⟨old, ho1, ho2⟩ := HM.out.cnt
          have HK1 := Lib.hid (HM.out.kept.none hL1)
          have HO1 := Lib.hid (own_left HM.out.own hL1 (by simp))
          have HC1 := Lib.hid (ho2.left hL1 (by simp))
          have hgc := ho2.lt
          have HMat := Lib.hid hMat
          have HOL := Lib.hid ho1
          clear hMat hL1 ho1 ho2
          go_wp2_with fail
          refine (digitL_any p gw gc gm ox wr.heap.size b (ds (4 + x)) true R old w1 hb hb4 (hds (4 + x)) (HB.out.kept HK1.out hnp hnw) HC1.out HOL.out HMat.out hgc HR.out).mono ?_
          rintro e w2 ⟨rfl, hW2, hL2⟩
          have HK2 := Lib.hid (HK1.out.one hL2 (.inl (by simp)))
          have HO2 := Lib.hid (own_left HO1.out hL2 (by simpa using hne5.symm))
          have HW2 := Lib.hid hW2
          clear hW2 hL2 HO1 HC1 HMat HK1
          have hdx := hds (4 + x)
          have HWL := Lib.hid (wid_length b (ds (4 + x)) (by omega))
          have HWS := Lib.hid (wid_sum b (ds (4 + x)) (by omega))
          have HBS := Lib.hid (bts_succ ds (4 + x))
          generalize hcs : wid b (ds (4 + x)) = cs at *
          generalize hdv : ds (4 + x) = dv at *
          clear hcs hdv
          have HO3 := Lib.hid (HO2.out.alloc (.cells #[.int .u8 (48 + (dv : Int))] 5))
          go_wp2_with (at_builtin; refine wpList_append_fits _ rfl (.tmp 118) (.tmp 122) 66 rfl 0 5 i5 1 Tryz.underlying66 HI.out.1 HI.out.2 gb (4 + x) 13 (bts ds (4 + x)) rfl HO3.out ⟨w2.heap.size, 0, none⟩ 1 1 [.int .u8 (48 + (dv : Int))] rfl rfl ?_ ?_ ?_ ?_)
          · intro j v hj
            match j, hj with
            | 0, hj => simp at hj; subst hj; simp [Addr.add]
          · intro v hv; simp at hv; subst hv; rfl
          · omega
          intro w3 hO4 hL4
          have hK3 := HK2.out.alloc (.cells #[.int .u8 (48 + (dv : Int))] 5)
          have HK4 := Lib.hid (hK3.one hL4 (.inl (by simp)))
          have e48 : Value.int .u8 (48 + (dv : Int)) = .int .u8 ((48 + dv : Nat) : Int) := by simp
          rw [e48, HBS.out] at hO4
          have HO4 := Lib.hid hO4
          have hW3 := (HW2.out.alloc (.cells #[.int .u8 (48 + (dv : Int))] 5)).left hL4 (by simpa using hne5)
          have HW3 := Lib.hid hW3
          clear hO4 hL4 hK3 e48 hW3 HO3 HO2 HW2 HK2
          go_wp2
          obtain ⟨wo, rfl⟩ : ∃ wo : World, wo = w3 := ⟨_, rfl⟩
          go_loop [13, 126] (fun c j => ∃ k : Nat, k ≤ 4 ∧ c = .int .i64 ((ox + sumN cs k : Nat) : Int) ∧ j = .int .i64 k) (fun _ j => 4 - (intOf j).toNat)
          case atStart => exact ⟨0, by omega, rfl, rfl⟩
          case round =>
            obtain ⟨k, hk, rfl, rfl⟩ := hrel
            have hle := sumN_le cs k
            rw [HWS.out] at hle
            by_cases hk4 : k < 4
            · have hcell := HW3.out.cell k
              rw [nats_get _ _ (by rw [HWL.out]; exact hk4)] at hcell
              have hle2 := sumN_le cs (k + 1)
              rw [HWS.out, sumN_succ] at hle2
              have HSS := Lib.hid (sumN_succ cs k)
              generalize hcv : cs.getD k 0 = cv at *
              generalize hsv : sumN cs k = sv at *
              clear hcv hsv
              go_wp2
              go_round
              case rel => exact ⟨k + 1, by omega, by rw [HSS.out]; go_num, by go_num⟩
              case measure => simp [intOf]; omega
            · have hk' : k = 4 := by omega
              subst hk'
              have hs4 := sumN_all cs 4 HWL.out
              rw [HWS.out] at hs4
              rw [hs4]
              clear hs4 hle
              go_wp2
              go_roundw
              case rel => exact ⟨x + 1, by omega, rfl, by rw [HOS.out], by go_num, ⟨HO4.out, ⟨_, by simp [nats, HWL.out], HW3.out⟩, HK4.out⟩⟩
              case measure => simp [intOf]; omega
        · have hx' : x = 4 := by omega
          subst hx'
          have e61 : offs o2 b 4 = o + 61 * b := by rw [HE2.out]; simp only [offs]; omega
          have HE := Lib.hid e61
          go_wp2
          go_ret3
          refine ⟨?_, HM.out.own, HM.out.kept⟩
          rw [← HE.out]
          rfl
end Go.Proofs.YtojngchcghabiaaGreatDoor
