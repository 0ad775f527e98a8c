/-
  The walk over the UPC-E reader's decodeMiddle.
-/
import Derived.Test.YtojngchcghabiaaGreatDoorMidLong
namespace Go.Proofs.YtojngchcghabiaaGreatDoor
open Go Go.RowKit

/-- The sets of the six digits, by the number system and the check digit. -/
def numNat : List (List Nat) := [[56, 52, 50, 49, 44, 38, 35, 42, 41, 37], [7, 11, 13, 14, 19, 25, 28, 21, 22, 26]]
def numN (n d : Nat) : Nat := (numNat.getD n []).getD d 0
theorem numN_lt (n d : Nat) (hn : n < 2) (hd : d < 10) : numN n d < 64 := by
  have h : ∀ a : Fin 2, ∀ b : Fin 10, numN a b < 64 := by decide
  exact h ⟨n, hn⟩ ⟨d, hd⟩
theorem numN_ne (n d n' d' : Nat) (hn : n < 2) (hd : d < 10) (hd' : d' < 10) (h : n' < n ∨ (n' = n ∧ d' < d)) : ((numN n d : Nat) : Int) ≠ ((numN n' d' : Nat) : Int) := by
  have h1 : ∀ a a' : Fin 2, ∀ b b' : Fin 10, ((a' : Nat) < a ∨ ((a' : Nat) = a ∧ (b' : Nat) < b)) → ((numN a b : Nat) : Int) ≠ ((numN a' b' : Nat) : Int) := by decide
  exact h1 ⟨n, hn⟩ ⟨n', by omega⟩ ⟨d, hd⟩ ⟨d', hd'⟩ h
theorem num_cell {w : World} {base g n d : Nat} (hn : n < 2) (hd : d < 10) (h : Mat w base g 10 numSys) : ∃ a, w.cell? ⟨g, n, none⟩ = some (.slice (some ⟨a, 0, none⟩) 10 10) ∧ w.cell? ⟨a, d, none⟩ = some (.int .i64 ((numN n d : Nat) : Int)) := by
  obtain ⟨at_, h1, h2, h3⟩ := h
  refine ⟨at_ n, ?_, ?_⟩
  · rw [h1.cell n, List.getElem?_map, List.getElem?_range (show n < numSys.length from hn)]
    rfl
  · rw [(h3 n hn).1.cell d]
    have h : ∀ a : Fin 2, ∀ b : Fin 10, (ints (numSys.getD a []))[(b : Nat)]? = some (.int .i64 ((numN a b : Nat) : Int)) := by
      have h' : ∀ a : Fin 2, ∀ b : Fin 10, (numSys.getD a [])[(b : Nat)]? = some ((numN a b : Nat) : Int) := by decide
      intro a b
      unfold ints
      rw [List.getElem?_map, h' a b]
      rfl
    exact h ⟨n, hn⟩ ⟨d, hd⟩

set_option maxRecDepth 100000 in
set_option maxHeartbeats 2000000 in
/-- determineNumSysAndCheckDigit: the places of a mask in the two rows of ten. -/
theorem numSysOf_any (n d gb : Nat) (ds : Nat → Nat) (w : World) (hn : n < 2) (hd : d < 10) (h0 : ds 0 = n) (h7 : ds 7 = d) (hO : w.ownsRow 0 5 1 (.slice (some ⟨gb, 0, none⟩) 7 13) 7 (bts (es ds) 7)) :
    Calls Tryz.prog 166 #[.slice (some ⟨gb, 0, none⟩) 7 13, .int .i64 ((numN n d : Nat) : Int)] w fun e w' =>
      e = .returned (.tuple #[.slice (some ⟨gb, 0, none⟩) 8 13, .nilIface]) ∧ w'.ownsRow 0 5 1 (.slice (some ⟨gb, 0, none⟩) 8 13) 8 (bts ds 8) ∧ Left' (some gb) w w' := by
  have HN := Lib.hid (fun n' d' => numN_ne n d n' d' hn hd)
  have HMM := Lib.hid (rfl : numN n d = numN n d)
  generalize hm : numN n d = m at HMM HN ⊢
  have HM := Lib.hid hm
  have HO := Lib.hid (And.intro hO (And.intro h0 h7))
  clear hm hO HMM h0 h7
  obtain ⟨i5, hi5, hz5, hz51, hz52⟩ := info_parts info5
  have HI := Lib.hid (And.intro hi5 hz51)
  clear hi5 hz5 hz51 hz52
  go_enter Tryz.func166, Tryz.ntmps166
  go_wp2
  go_loopw [0, 6] (fun a i wr => ∃ k : Nat, k ≤ n ∧ a = .slice (some ⟨gb, 0, none⟩) 7 13 ∧ i = .int .u8 k ∧ Left' none w wr) (fun _ i _ => n - (intOf i).toNat)
  case atStart => exact ⟨0, by omega, rfl, rfl, .refl _ _⟩
  case round =>
    obtain ⟨k, hk, rfl, rfl, hL⟩ := hrel
    have HL := Lib.hid hL
    clear hL
    have hk1 : decide ((k : Int) ≤ 1) = true := by simp; omega
    go_wp2
    obtain ⟨wo, rfl⟩ : ∃ wo : World, wo = wr := ⟨_, rfl⟩
    go_loopw [0, 7] (fun a i wr => ∃ j : Nat, j ≤ 10 ∧ (k = n → j ≤ d) ∧ a = .slice (some ⟨gb, 0, none⟩) 7 13 ∧ i = .int .u8 j ∧ Left' none w wr) (fun _ i _ => 10 - (intOf i).toNat)
    case atStart => exact ⟨0, by omega, by omega, rfl, rfl, HL.out⟩
    case round =>
      clear HL
      obtain ⟨j, hj, hjd, rfl, rfl, hL⟩ := hrel
      have HL := Lib.hid hL
      clear hL
      by_cases hj10 : j < 10
      · go_wp2_with fail
        refine (numSys_any wr).mono ?_
        rintro e w1 ⟨g, rfl, hM, hL1⟩
        have HL1 := Lib.hid (HL.out.trans hL1)
        obtain ⟨a, hc1, hc2⟩ := num_cell (show k < 2 by omega) hj10 hM
        rw [show numSys.length = 2 from rfl]
        clear hM hL1 HL
        by_cases hhit : k = n ∧ j = d
        · obtain ⟨rfl, rfl⟩ := hhit
          rw [HM.out] at hc2
          have hO1 := own_left HO.out.1 HL1.out (by simp)
          have hc48 : w1.cell? ⟨gb, 0, none⟩ = some (.int .u8 48) := own_cells5 hO1 0 (by omega)
          have hf48 := own_frozen hO1 0
          have hO2 := own_set (v := .int .u8 ((48 + ds 0 : Nat) : Int)) hO1 (show 0 < 7 by omega)
          rw [show (7 : Nat) = 6 + 1 from rfl, bts_first] at hO2
          have hL2 := (HL1.out.of_none (row := some gb)).setCell (p := ⟨gb, 0, none⟩) (.inl rfl) (.int .u8 ((48 + ds 0 : Nat) : Int))
          have e48 : ((48 + ds 0 : Nat) : Int) = 48 + (k : Int) := by have := HO.out.2.1; omega
          rw [e48] at hO2 hL2
          have H2 := Lib.hid (And.intro hO2 hL2)
          clear hO1 hO2 hL2 e48
          have HO3 := Lib.hid (H2.out.1.alloc (.cells #[.int .u8 (48 + (j : Int))] 5))
          have hc0 := (Whole.new (w1.setCell ⟨gb, 0, none⟩ (.int .u8 (48 + (k : Int)))) 5 [.int .u8 (48 + (j : Int))]).cell 0
          rw [World.size_setCell] at hc0
          have HC0 := Lib.hid hc0
          clear hc0
          go_wp2_with (at_builtin; refine wpList_append_fits _ rfl (.tmp 29) (.tmp 32) 66 rfl 0 5 i5 1 Tryz.underlying66 HI.out.1 HI.out.2 gb 7 13 (bts ds 7) rfl HO3.out ⟨w1.heap.size, 0, none⟩ 1 1 [.int .u8 (48 + (j : Int))] rfl rfl ?_ ?_ ?_ ?_)
          · intro j v hj
            match j, hj with
            | 0, hj => simp at hj; subst hj; exact HC0.out
          · intro v hv; simp at hv; subst hv; rfl
          · omega
          intro w3 hO4 hL4
          have hL5 := (H2.out.2.alloc (.cells #[.int .u8 (48 + (j : Int))] 5)).trans hL4
          have e48 : Value.int .u8 (48 + (j : Int)) = .int .u8 ((48 + ds 7 : Nat) : Int) := by rw [HO.out.2.2]; simp
          rw [e48, bts_succ] at hO4
          have HX := Lib.hid (And.intro hO4 hL5)
          clear hO4 hL4 hL5 e48 HO3 H2
          go_wp2
          go_ret2
          exact ⟨rfl, HX.out.1, HX.out.2⟩
        · have hne := HN.out k j hj10 (by omega)
          generalize numN k j = z at *
          have hz' : ((m : Int) == (z : Int)) = false := by simpa using hne
          clear hne
          go_wp2
          go_roundw
          case rel => exact ⟨j + 1, by omega, by omega, rfl, by go_num, HL1.out⟩
          case measure => simp [intOf]; omega
      · have hkn : k < n := by omega
        go_wp2
        go_roundw
        case rel => exact ⟨k + 1, by omega, rfl, by go_num, HL.out⟩
        case measure => simp [intOf]; omega

set_option maxRecDepth 100000 in
set_option maxHeartbeats 4000000 in
/-- decodeMiddle of the UPC-E reader. -/
theorem midE_any (p gw r gc gb gs o b s0 : Nat) (u : Value) (ds ps : Nat → Nat) (R : List Bool) (old : List Value) (w : World) (hb : 0 < b) (hb4 : b ≤ 4) (hds : ∀ i, ds i < 10) (hps : ∀ x, x < 6 → ps x < 20 ∧ ps x % 10 = ds (x + 1)) (hd0 : ds 0 < 2) (hmask : mask ps 6 = numN (ds 0) (ds 7))
    (hB : Bits w p gw R) (hT : Tab w) (hr : Whole w r 61 [u, .slice (some ⟨gc, 0, none⟩) 4 4]) (hC : Whole w gc 3 old) (hol : old.length = 4) (hs : Whole w gs 3 (nats [s0, o])) (hgs : gs ≠ gc)
    (hbuf : w.ownsRow 0 5 1 (.slice (some ⟨gb, 0, none⟩) 0 13) 0 (bts (es ds) 0))
    (hdl : ∀ x, x < 6 → RunsAt R (offs o b x) false (wid b (ps x))) :
    Calls Tryz.prog 163 #[.pointer (some ⟨r, 0, none⟩), .pointer (some ⟨p, 0, none⟩), .slice (some ⟨gs, 0, none⟩) 2 2, .slice (some ⟨gb, 0, none⟩) 0 13] w fun e w' =>
      e = .returned (.tuple #[.int .i64 ((o + 42 * b : Nat) : Int), .slice (some ⟨gb, 0, none⟩) 8 13, .nilIface]) ∧ w'.ownsRow 0 5 1 (.slice (some ⟨gb, 0, none⟩) 8 13) 8 (bts ds 8) ∧ Kept [gc, gb] w w' := by
  have hsm := hB.small
  have hne1 : p ≠ gc := hB.head.ne hC (by decide)
  have hne2 : gw ≠ gc := hB.words.ne hC (by decide)
  have hne3 : gb ≠ p := own_ne hbuf hB.head (by decide)
  have hne4 : gb ≠ gw := own_ne hbuf hB.words (by decide)
  have hne5 : gb ≠ gc := own_ne hbuf hC (by decide)
  have hc0 : w.cell? ⟨r, 1, none⟩ = some (.slice (some ⟨gc, 0, none⟩) 4 4) := hr.cell 1
  match old, hol with
  | [v0, v1, v2, v3], _ =>
  have f0 := hC.frozen 0
  have f1 := hC.frozen 1
  have f2 := hC.frozen 2
  have f3 := hC.frozen 3
  have g0 : w.cell? ⟨gc, 0, none⟩ = some v0 := hC.cell 0
  have g1 : w.cell? ⟨gc, 1, none⟩ = some v1 := hC.cell 1
  have g2 : w.cell? ⟨gc, 2, none⟩ = some v2 := hC.cell 2
  have g3 : w.cell? ⟨gc, 3, none⟩ = some v3 := hC.cell 3
  have hC4 : Whole ((((w.setCell ⟨gc, 0, none⟩ (.int .i64 0)).setCell ⟨gc, 1, none⟩ (.int .i64 0)).setCell ⟨gc, 2, none⟩ (.int .i64 0)).setCell ⟨gc, 3, none⟩ (.int .i64 0)) gc 3 (nats [0, 0, 0, 0]) := (((hC.set 0 _).set 1 _).set 2 _).set 3 _
  have hK4 : Kept [gc, gb] w ((((w.setCell ⟨gc, 0, none⟩ (.int .i64 0)).setCell ⟨gc, 1, none⟩ (.int .i64 0)).setCell ⟨gc, 2, none⟩ (.int .i64 0)).setCell ⟨gc, 3, none⟩ (.int .i64 0)) :=
    ((((Kept.refl _ w).setCell (p := ⟨gc, 0, none⟩) (.inl (by simp)) _).setCell (p := ⟨gc, 1, none⟩) (.inl (by simp)) _).setCell (p := ⟨gc, 2, none⟩) (.inl (by simp)) _).setCell (p := ⟨gc, 3, none⟩) (.inl (by simp)) _
  have hK1 : Left' (some gc) w ((((w.setCell ⟨gc, 0, none⟩ (.int .i64 0)).setCell ⟨gc, 1, none⟩ (.int .i64 0)).setCell ⟨gc, 2, none⟩ (.int .i64 0)).setCell ⟨gc, 3, none⟩ (.int .i64 0)) :=
    ((((Left'.refl w (some gc)).setCell (p := ⟨gc, 0, none⟩) (.inl rfl) _).setCell (p := ⟨gc, 1, none⟩) (.inl rfl) _).setCell (p := ⟨gc, 2, none⟩) (.inl rfl) _).setCell (p := ⟨gc, 3, none⟩) (.inl rfl) _
  have hO4 := own_left hbuf hK1 (by simpa using hne5.symm)
  have hS4 := hs.left hK1 (by simpa using hgs.symm)
  have hB4 := hB.left hK1 (by simpa using hne1.symm) (by simpa using hne2.symm)
  have H0 := Lib.hid (And.intro hC4 (And.intro hK4 (And.intro hO4 (And.intro hS4 hB4))))
  have HB := Lib.hid hB
  have HD := Lib.hid hdl
  have HT := Lib.hid hT
  have h0w : 0 < w.heap.size := by have := hB.head.lt; omega
  clear hC4 hK4 hK1 hO4 hS4 hB4 hB hC hr hs hbuf hdl hT
  go_enter Tryz.func163, Tryz.ntmps163
  go_wp2_with fail
  generalize (((w.setCell ⟨gc, 0, none⟩ (.int .i64 0)).setCell ⟨gc, 1, none⟩ (.int .i64 0)).setCell ⟨gc, 2, none⟩ (.int .i64 0)).setCell ⟨gc, 3, none⟩ (.int .i64 0) = w0 at H0 ⊢
  clear f0 f1 f2 f3 g0 g1 g2 g3 hc0
  refine (getSize_any p gw R w0 H0.out.2.2.2.2).mono ?_
  rintro e w' ⟨rfl, rfl⟩
  have hs1 : w0.cell? ⟨gs, 1, none⟩ = some (.int .i64 (o : Nat)) := H0.out.2.2.2.1.cell 1
  obtain ⟨i5, hi5, hz5, hz51, hz52⟩ := info_parts info5
  have HI := Lib.hid (And.intro hi5 hz51)
  clear hi5 hz5 hz51 hz52
  have HO3 := Lib.hid (H0.out.2.2.1.alloc (.cells #[.int .u8 48] 5))
  go_wp2_with (at_builtin; refine wpList_append_fits _ rfl (.tmp 38) (.tmp 39) 66 rfl 0 5 i5 1 Tryz.underlying66 HI.out.1 HI.out.2 gb 0 13 (bts (es ds) 0) rfl HO3.out ⟨w0.heap.size, 0, none⟩ 1 1 [.int .u8 48] rfl rfl ?_ ?_ ?_ ?_)
  · intro j v hj
    match j, hj with
    | 0, hj => simp at hj; subst hj; simp [Addr.add]
  · intro v hv; simp at hv; subst hv; rfl
  · omega
  intro w01 hO4 hL4
  have hK4 := (H0.out.2.1.alloc (.cells #[.int .u8 48] 5)).one hL4 (.inl (by simp))
  have hC4 := (H0.out.1.alloc (.cells #[.int .u8 48] 5)).left hL4 (by simpa using hne5)
  have M0 : MidSt w w01 gc gb (es ds) 1 := ⟨hO4, ⟨_, rfl, hC4⟩, hK4⟩
  have HM0 := Lib.hid M0
  clear hO4 hL4 hK4 hC4 HO3
  go_wp2
  clear hs1
  have hnp : p ∉ [gc, gb] := by simp; omega
  have hnw : gw ∉ [gc, gb] := by simp; omega
  clear M0 H0
  have HPS := Lib.hid (And.intro hps hmask)
  clear hps hmask
  go_loopw [3, 13, 14, 15] (fun a b' m i wr => ∃ x : Nat, x ≤ 6 ∧ a = .slice (some ⟨gb, 0, none⟩) (1 + x) 13 ∧ b' = .int .i64 (offs o b x) ∧ m = .int .i64 (mask ps x : Nat) ∧ i = .int .i64 x ∧ MidSt w wr gc gb (es ds) (1 + x)) (fun _ _ _ i _ => 6 - (intOf i).toNat)
  case atStart => exact ⟨0, by omega, rfl, by rw [offs_zero], rfl, rfl, HM0.out⟩
  case round =>
    clear HM0
    obtain ⟨x, hx, rfl, rfl, rfl, rfl, hM⟩ := hrel
    have HM := Lib.hid hM
    clear hM
    by_cases hx4 : x < 6
    · have hR := HD.out x hx4
      have hlt := hR.1
      obtain ⟨hpx, hpm⟩ := HPS.out.1 x hx4
      rw [wid_sum b (ps x) hpx] at hlt
      have HR := Lib.hid hR
      have HOS := Lib.hid (offs_succ o b x)
      clear hR
      generalize hox : offs o b x = ox at *
      clear hox
      go_wp2_with fail
      refine (lgPats_any wr).mono ?_
      rintro e w1 ⟨gm, rfl, hMat, hL1⟩
      obtain ⟨old, ho1, ho2⟩ := HM.out.cnt
      have HK1 := Lib.hid (HM.out.kept.none hL1)
      have HO1 := Lib.hid (own_left HM.out.own hL1 (by simp))
      have HC1 := Lib.hid (ho2.left hL1 (by simp))
      have hgc := ho2.lt
      have HMat := Lib.hid hMat
      have HOL := Lib.hid ho1
      rw [show lgPats.length = 20 from rfl]
      clear hMat hL1 ho1 ho2
      go_wp2_with fail
      refine (digitLG_any p gw gc gm ox wr.heap.size b (ps x) false R old w1 hb hb4 hpx (HB.out.kept HK1.out hnp hnw) HC1.out HOL.out HMat.out hgc HR.out).mono ?_
      rintro e w2 ⟨rfl, hW2, hL2⟩
      have HK2 := Lib.hid (HK1.out.one hL2 (.inl (by simp)))
      have HO2 := Lib.hid (own_left HO1.out hL2 (by simpa using hne5.symm))
      have HW2 := Lib.hid hW2
      clear hW2 hL2 HO1 HC1 HMat HK1
      have hdx := hds (x + 1)
      have HWL := Lib.hid (wid_length b (ps x) hpx)
      have HWS := Lib.hid (wid_sum b (ps x) hpx)
      have HBS := Lib.hid (bts_succ (es ds) (1 + x))
      rw [show es ds (1 + x) = ds (x + 1) by rw [Nat.add_comm 1 x, es_succ]] at HBS
      have hpi : ((ps x : Nat) : Int) % 10 = (ds (x + 1) : Int) := by omega
      have HMS := Lib.hid (show mask ps (x + 1) = if 10 ≤ ps x then mask ps x ||| 2 ^ (5 - x) else mask ps x from rfl)
      have hml := mask_lt ps x (by omega)
      have HOR := Lib.hid (mask_or x hx4 (mask ps x) hml)
      clear hpm
      generalize hcs : wid b (ps x) = cs at *
      generalize hdv : ds (x + 1) = dv at *
      generalize hpv : ps x = px at *
      generalize hmv : mask ps x = mx at *
      clear hcs hdv hpv hmv
      have HO3 := Lib.hid (HO2.out.alloc (.cells #[.int .u8 (48 + (dv : Int))] 5))
      go_wp2_with (at_builtin; refine wpList_append_fits _ rfl (.tmp 63) (.tmp 68) 66 rfl 0 5 i5 1 Tryz.underlying66 HI.out.1 HI.out.2 gb (1 + x) 13 (bts (es ds) (1 + x)) rfl HO3.out ⟨w2.heap.size, 0, none⟩ 1 1 [.int .u8 (48 + (dv : Int))] rfl rfl ?_ ?_ ?_ ?_)
      · intro j v hj
        match j, hj with
        | 0, hj => simp at hj; subst hj; simp [Addr.add]
      · intro v hv; simp at hv; subst hv; rfl
      · omega
      intro w3 hO4 hL4
      have hK3 := HK2.out.alloc (.cells #[.int .u8 (48 + (dv : Int))] 5)
      have HK4 := Lib.hid (hK3.one hL4 (.inl (by simp)))
      have e48 : Value.int .u8 (48 + (dv : Int)) = .int .u8 ((48 + dv : Nat) : Int) := by simp
      rw [e48, HBS.out] at hO4
      have HO4 := Lib.hid hO4
      have hW3 := (HW2.out.alloc (.cells #[.int .u8 (48 + (dv : Int))] 5)).left hL4 (by simpa using hne5)
      have HW3 := Lib.hid hW3
      clear hO4 hL4 hK3 e48 hW3 HO3 HO2 HW2 HK2
      go_wp2
      obtain ⟨wo, rfl⟩ : ∃ wo : World, wo = w3 := ⟨_, rfl⟩
      go_loop [13, 72] (fun c j => ∃ k : Nat, k ≤ 4 ∧ c = .int .i64 ((ox + sumN cs k : Nat) : Int) ∧ j = .int .i64 k) (fun _ j => 4 - (intOf j).toNat)
      case atStart => exact ⟨0, by omega, rfl, rfl⟩
      case round =>
        obtain ⟨k, hk, rfl, rfl⟩ := hrel
        have hle := sumN_le cs k
        rw [HWS.out] at hle
        by_cases hk4 : k < 4
        · have hcell := HW3.out.cell k
          rw [nats_get _ _ (by rw [HWL.out]; exact hk4)] at hcell
          have hle2 := sumN_le cs (k + 1)
          rw [HWS.out, sumN_succ] at hle2
          have HSS := Lib.hid (sumN_succ cs k)
          generalize hcv : cs.getD k 0 = cv at *
          generalize hsv : sumN cs k = sv at *
          clear hcv hsv
          go_wp2
          go_round
          case rel => exact ⟨k + 1, by omega, by rw [HSS.out]; go_num, by go_num⟩
          case measure => simp [intOf]; omega
        · have hk' : k = 4 := by omega
          subst hk'
          have hs4 := sumN_all cs 4 HWL.out
          rw [HWS.out] at hs4
          rw [hs4]
          clear hs4 hle
          by_cases h10 : 10 ≤ px
          · have HMS2 := HMS.out
            rw [if_pos h10] at HMS2
            have HMS3 := Lib.hid HMS2
            clear HMS2 HMS
            go_wp2
            go_roundw
            case rel => exact ⟨x + 1, by omega, rfl, by rw [HOS.out], by rw [HMS3.out, ← HOR.out, wrap_pow x hx4], by go_num, ⟨HO4.out, ⟨_, by simp [nats, HWL.out], HW3.out⟩, HK4.out⟩⟩
            case measure => simp [intOf]; omega
          · have HMS2 := HMS.out
            rw [if_neg h10] at HMS2
            have HMS3 := Lib.hid HMS2
            clear HMS2 HMS
            go_wp2
            go_roundw
            case rel => exact ⟨x + 1, by omega, rfl, by rw [HOS.out], by rw [HMS3.out], by go_num, ⟨HO4.out, ⟨_, by simp [nats, HWL.out], HW3.out⟩, HK4.out⟩⟩
            case measure => simp [intOf]; omega
    · have hx' : x = 6 := by omega
      subst hx'
      have e28 : offs o b 6 = o + 42 * b := by simp only [offs]; omega
      rw [e28, HPS.out.2, show 1 + 6 = 7 from rfl]
      clear e28
      go_wp2_with fail
      refine (numSysOf_any (ds 0) (ds 7) gb ds wr hd0 (hds 7) rfl rfl HM.out.own).mono ?_
      rintro e w5 ⟨rfl, hO5, hL5⟩
      have H5 := Lib.hid (And.intro hO5 (HM.out.kept.one hL5 (.inl (by simp))))
      clear hO5 hL5
      go_wp2
      go_ret3
      exact ⟨rfl, H5.out.1, H5.out.2⟩
end Go.Proofs.YtojngchcghabiaaGreatDoor
