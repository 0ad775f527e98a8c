/-
  The walk over findGuardPatternWithCounters: where the row goes on in runs of one width it finds them.
-/
import Derived.Test.YtojngchcghabiaaGreatDoorRecord
namespace Go.Proofs.YtojngchcghabiaaGreatDoor
open Go Go.RowKit

theorem ints_get (zs : List Int) (k : Nat) (h : k < zs.length) : (ints zs)[k]? = some (.int .i64 (zs.getD k 0)) := by
  simp [ints, h]
theorem nats_ints (cs : List Nat) : nats cs = ints (cs.map fun (n : Nat) => (n : Int)) := by
  simp [nats, ints, Function.comp_def]

/-- A call that finds a guard: from place q to place q'. -/
def Found (row : Option Nat) (q q' : Nat) (w : World) (e : Ending) (w' : World) : Prop :=
  ∃ g, e = .returned (.tuple #[.slice (some ⟨g, 0, none⟩) 2 2, .nilIface]) ∧ Whole w' g 3 (nats [q, q']) ∧ w.heap.size ≤ g ∧ Left' row w w'

theorem getD_le_sum (cs : List Nat) (j : Nat) : cs.getD j 0 ≤ cs.sum := by
  induction cs generalizing j with
  | nil => simp
  | cons a cs ih =>
    cases j with
    | zero => simp
    | succ j => have := ih j; simp only [List.getD_cons_succ, List.sum_cons]; omega
theorem ones_le_sum (cs : List Nat) (n : Nat) (h : cs.length = n) (hp : ∀ k ∈ cs, 0 < k) : (List.replicate n (1 : Int)).sum ≤ (cs.map fun (k : Nat) => (k : Int)).sum := by
  induction cs generalizing n with
  | nil => simp at h; subst h; simp
  | cons a cs ih =>
    simp only [List.length_cons] at h
    subst h
    have := ih cs.length rfl (fun k hk => hp k (by simp [hk]))
    have := hp a (by simp)
    simp only [List.replicate_succ, List.sum_cons, List.map_cons]
    omega

set_option maxHeartbeats 2000000 in
theorem guard_any (p gw gc gp m q n v : Nat) (wf : Bool) (R : List Bool) (cs : List Nat) (w : World) (hB : Bits w p gw R) (hT : Tab w) (hC : Whole w gc 3 (nats (List.replicate n 0))) (hP : Whole w gp 3 (ints (List.replicate n 1))) (hn : n ≤ 10)
    (hcl : cs.length = n) (hpos : ∀ k ∈ cs, 0 < k) (hcs0 : 0 < cs.sum) (hgne : gp ≠ gc)
    (hmq : m ≤ q) (hskip : ∀ i, m ≤ i → i < q → R.getD i false = wf) (hR : RunsAt R q (!wf) cs)
    (hv : pmv (cs.map fun (k : Nat) => (k : Int)) (List.replicate n 1) = some v) (hlt : (fOrd v maxAvg == some .lt) = true) :
    Calls Tryz.prog 56 #[.pointer (some ⟨p, 0, none⟩), .int .i64 m, .bool wf, .slice (some ⟨gp, 0, none⟩) n n, .slice (some ⟨gc, 0, none⟩) n n] w (Found (some gc) q (q + cs.sum) w) := by
  have hs := hB.small
  have hne : (some gc : Option Nat) ≠ some p := by
    have := hC.ne hB.head (by decide)
    simpa using this
  have hne2 : (some gc : Option Nat) ≠ some gw := by
    have := hC.ne hB.words (by decide)
    simpa using this
  have hs2 := hR.1
  have hq0 := hR.2 0 (by omega)
  rw [idx_zero cs hpos, hue_zero] at hq0
  have hqs : R.getD q false = !wf := hq0
  obtain ⟨c, hc⟩ : ∃ c, c = !wf := ⟨_, rfl⟩
  rw [← hc] at hR
  have Hc := Lib.hid hc
  clear hc hq0
  have hq0 := hqs
  clear hqs
  have HB := Lib.hid hB
  have HT := Lib.hid hT
  have HR := Lib.hid hR
  have HCL := Lib.hid hcl
  have HP := Lib.hid hpos
  have HS := Lib.hid hskip
  have HPP := Lib.hid hP
  have HC := Lib.hid hC
  have HV := Lib.hid hv
  have HLT := Lib.hid hlt
  have HQ := Lib.hid hq0
  clear hB hR hcl hpos hT hskip hP hC hv hlt hq0
  cases wf
  · go_enter Tryz.func56, Tryz.ntmps56
    go_wp2_with fail
    refine (getSize_any p gw R w HB.out).mono ?_
    rintro e w' ⟨rfl, rfl⟩
    go_wp2_with fail
    refine (nextSet_hit p gw m q R w HB.out HT.out hmq (by omega) (by simpa using HQ.out) HS.out).mono ?_
    rintro e w' ⟨rfl, rfl⟩
    go_wp2
    go_loopw [13, 14, 16, 17] (fun a b z i => fun wr => ∃ t : Nat, t ≤ cs.sum ∧ a = .int .i64 (pos cs t) ∧ b = .int .i64 q ∧ z = .bool (!(hue c (pos cs t))) ∧ i = .int .i64 (q + t : Nat) ∧ Whole wr gc 3 (nats (cnt cs t)) ∧ Left' (some gc) w wr) (fun _ _ _ i _ => q + cs.sum + 1 - (intOf i).toNat)
    case atStart =>
      refine ⟨0, by omega, ?_, rfl, ?_, rfl, ?_, Left'.refl _ _⟩
      · rw [pos_zero cs HP.out]; rfl
      · rw [pos_zero cs HP.out, hue_zero, Hc.out]; rfl
      · rw [cnt_zero, HCL.out]; exact HC.out
    case round =>
      obtain ⟨t, ht, rfl, rfl, rfl, rfl, hW, hL⟩ := hrel
      have hBx := HB.out.left hL hne hne2
      have HW := Lib.hid hW
      have HL := Lib.hid hL
      clear hW hL
      have hpl := pos_lt cs t ht hcs0
      rw [HCL.out] at hpl
      have hcol := HR.out.2 t ht
      rcases pos_or cs HP.out t ht with hsame | ⟨hnext, ht0⟩
      · have hts : t < cs.sum := by
          rcases Nat.lt_or_ge t cs.sum with h | h
          · exact h
          · have : t = cs.sum := by omega
            subst this
            rw [idx_sum, HCL.out] at hsame; omega
        rw [hsame] at hcol
        have hcell := HW.out.cell (pos cs t)
        rw [nats_get _ _ (by rw [cnt_length, HCL.out]; exact hpl)] at hcell
        have hfz := HW.out.frozen (pos cs t)
        have hle := cnt_le cs t (pos cs t)
        have HS := Lib.hid (cnt_same cs t hts hsame)
        have HSM := Lib.hid hsame
        clear hsame
        generalize hx : (cnt cs t).getD (pos cs t) 0 = x at hcell hle HS
        generalize hy : pos cs t = y at *
        clear hx hy
        go_wp2_with fail
        refine (get_any p gw (q + t) R wr hBx (by omega)).mono ?_
        rintro e w' ⟨rfl, rfl⟩
        rw [hcol]
        go_wp2
        go_roundw
        case rel =>
          refine ⟨t + 1, by omega, by rw [pos_succ, HSM.out], rfl, by rw [pos_succ, HSM.out], by go_num, ?_, HL.out.setCell (.inl rfl) _⟩
          have := HW.out.set y (.int .i64 ((x + 1 : Nat) : Int))
          rw [nats_set, ← HS.out] at this
          exact this
        case measure => simp [intOf]; omega
      · rw [hnext, hue_succ] at hcol
        by_cases hts : t < cs.sum
        · have hil := idx_lt cs t hts
          rw [HCL.out, hnext] at hil
          have hcell := HW.out.cell (pos cs t + 1)
          rw [nats_get _ _ (by rw [cnt_length, HCL.out]; exact hil)] at hcell
          have hfz := HW.out.frozen (pos cs t + 1)
          have HS := Lib.hid (cnt_next cs HP.out t hts hnext)
          have HN := Lib.hid hnext
          clear hnext
          generalize hx : (cnt cs t).getD (pos cs t + 1) 0 = x at hcell
          generalize hy : pos cs t = y at *
          clear hx hy
          have hneq : ((y : Int) == (n : Int) - 1) = false := by simp; omega
          go_wp2_with fail
          refine (get_any p gw (q + t) R wr hBx (by omega)).mono ?_
          rintro e w' ⟨rfl, rfl⟩
          rw [hcol]
          go_wp2
          go_roundw
          case rel =>
            refine ⟨t + 1, by omega, by rw [pos_succ, HN.out]; go_num, rfl, by rw [pos_succ, HN.out, hue_succ, Bool.not_not], by go_num, ?_, HL.out.setCell (.inl rfl) _⟩
            have := HW.out.set (y + 1) (.int .i64 ((1 : Nat) : Int))
            rw [nats_set, ← HS.out] at this
            exact this
          case measure => simp [intOf]; omega
        · have hte : t = cs.sum := by omega
          subst hte
          have hpl3 := pos_last cs HP.out hcs0
          rw [HCL.out] at hpl3
          have HWf := Lib.hid HW.out
          rw [cnt_sum cs cs.sum (Nat.le_refl _)] at HWf
          generalize hy : pos cs cs.sum = y at *
          have hneq : ((y : Int) == (n : Int) - 1) = true := by simp; omega
          clear hpl3 hnext hy
          go_wp2_with fail
          refine (get_any p gw (q + cs.sum) R wr hBx (by omega)).mono ?_
          rintro e w' ⟨rfl, rfl⟩
          rw [hcol]
          go_wp2_with fail
          have hPx := HPP.out.left HL.out (by simpa using fun h : gc = gp => hgne h.symm)
          have hlen : (cs.map fun (k : Nat) => (k : Int)).length = n := by rw [List.length_map]; exact HCL.out
          refine (pmv_any gc gp n n n (cs.map fun (k : Nat) => (k : Int)) (List.replicate n 1) v wr hn hlen (by simp) ?_ ?_ ?_ ?_ HV.out ?_).mono ?_
          · intro j hj
            rw [HWf.out.cell, nats_ints, ints_get _ _ (by rw [hlen]; exact hj)]
          · intro j hj
            rw [hPx.cell, ints_get _ _ (by simpa using hj)]
          · intro j
            have h1 : (cs.map fun (k : Nat) => (k : Int)).getD j 0 = (cs.getD j 0 : Nat) := by simp [List.getD_eq_getElem?_getD]; cases cs[j]? <;> simp
            have h2 := getD_le_sum cs j
            rw [h1]; omega
          · intro j
            simp only [List.getD_eq_getElem?_getD, List.getElem?_replicate]
            split <;> simp
          · exact ones_le_sum cs n HCL.out HP.out
          rintro e w' ⟨rfl, rfl⟩
          have hlt : (FloatKind.f64.format.order v 4602318531202457272 == some Ordering.lt) = true := HLT.out
          go_wp2
          go_ret2
          refine ⟨_, rfl, ?_, HL.out.size, HL.out.alloc _⟩
          have := Whole.new wr 3 (nats [q, q + cs.sum])
          exact this
  · go_enter Tryz.func56, Tryz.ntmps56
    go_wp2_with fail
    refine (getSize_any p gw R w HB.out).mono ?_
    rintro e w' ⟨rfl, rfl⟩
    go_wp2_with fail
    refine (nextUnset_hit p gw m q R w HB.out HT.out hmq (by omega) (by simpa using HQ.out) HS.out).mono ?_
    rintro e w' ⟨rfl, rfl⟩
    go_wp2
    go_loopw [13, 14, 16, 17] (fun a b z i => fun wr => ∃ t : Nat, t ≤ cs.sum ∧ a = .int .i64 (pos cs t) ∧ b = .int .i64 q ∧ z = .bool (!(hue c (pos cs t))) ∧ i = .int .i64 (q + t : Nat) ∧ Whole wr gc 3 (nats (cnt cs t)) ∧ Left' (some gc) w wr) (fun _ _ _ i _ => q + cs.sum + 1 - (intOf i).toNat)
    case atStart =>
      refine ⟨0, by omega, ?_, rfl, ?_, rfl, ?_, Left'.refl _ _⟩
      · rw [pos_zero cs HP.out]; rfl
      · rw [pos_zero cs HP.out, hue_zero, Hc.out]; rfl
      · rw [cnt_zero, HCL.out]; exact HC.out
    case round =>
      obtain ⟨t, ht, rfl, rfl, rfl, rfl, hW, hL⟩ := hrel
      have hBx := HB.out.left hL hne hne2
      have HW := Lib.hid hW
      have HL := Lib.hid hL
      clear hW hL
      have hpl := pos_lt cs t ht hcs0
      rw [HCL.out] at hpl
      have hcol := HR.out.2 t ht
      rcases pos_or cs HP.out t ht with hsame | ⟨hnext, ht0⟩
      · have hts : t < cs.sum := by
          rcases Nat.lt_or_ge t cs.sum with h | h
          · exact h
          · have : t = cs.sum := by omega
            subst this
            rw [idx_sum, HCL.out] at hsame; omega
        rw [hsame] at hcol
        have hcell := HW.out.cell (pos cs t)
        rw [nats_get _ _ (by rw [cnt_length, HCL.out]; exact hpl)] at hcell
        have hfz := HW.out.frozen (pos cs t)
        have hle := cnt_le cs t (pos cs t)
        have HS := Lib.hid (cnt_same cs t hts hsame)
        have HSM := Lib.hid hsame
        clear hsame
        generalize hx : (cnt cs t).getD (pos cs t) 0 = x at hcell hle HS
        generalize hy : pos cs t = y at *
        clear hx hy
        go_wp2_with fail
        refine (get_any p gw (q + t) R wr hBx (by omega)).mono ?_
        rintro e w' ⟨rfl, rfl⟩
        rw [hcol]
        go_wp2
        go_roundw
        case rel =>
          refine ⟨t + 1, by omega, by rw [pos_succ, HSM.out], rfl, by rw [pos_succ, HSM.out], by go_num, ?_, HL.out.setCell (.inl rfl) _⟩
          have := HW.out.set y (.int .i64 ((x + 1 : Nat) : Int))
          rw [nats_set, ← HS.out] at this
          exact this
        case measure => simp [intOf]; omega
      · rw [hnext, hue_succ] at hcol
        by_cases hts : t < cs.sum
        · have hil := idx_lt cs t hts
          rw [HCL.out, hnext] at hil
          have hcell := HW.out.cell (pos cs t + 1)
          rw [nats_get _ _ (by rw [cnt_length, HCL.out]; exact hil)] at hcell
          have hfz := HW.out.frozen (pos cs t + 1)
          have HS := Lib.hid (cnt_next cs HP.out t hts hnext)
          have HN := Lib.hid hnext
          clear hnext
          generalize hx : (cnt cs t).getD (pos cs t + 1) 0 = x at hcell
          generalize hy : pos cs t = y at *
          clear hx hy
          have hneq : ((y : Int) == (n : Int) - 1) = false := by simp; omega
          go_wp2_with fail
          refine (get_any p gw (q + t) R wr hBx (by omega)).mono ?_
          rintro e w' ⟨rfl, rfl⟩
          rw [hcol]
          go_wp2
          go_roundw
          case rel =>
            refine ⟨t + 1, by omega, by rw [pos_succ, HN.out]; go_num, rfl, by rw [pos_succ, HN.out, hue_succ, Bool.not_not], by go_num, ?_, HL.out.setCell (.inl rfl) _⟩
            have := HW.out.set (y + 1) (.int .i64 ((1 : Nat) : Int))
            rw [nats_set, ← HS.out] at this
            exact this
          case measure => simp [intOf]; omega
        · have hte : t = cs.sum := by omega
          subst hte
          have hpl3 := pos_last cs HP.out hcs0
          rw [HCL.out] at hpl3
          have HWf := Lib.hid HW.out
          rw [cnt_sum cs cs.sum (Nat.le_refl _)] at HWf
          generalize hy : pos cs cs.sum = y at *
          have hneq : ((y : Int) == (n : Int) - 1) = true := by simp; omega
          clear hpl3 hnext hy
          go_wp2_with fail
          refine (get_any p gw (q + cs.sum) R wr hBx (by omega)).mono ?_
          rintro e w' ⟨rfl, rfl⟩
          rw [hcol]
          go_wp2_with fail
          have hPx := HPP.out.left HL.out (by simpa using fun h : gc = gp => hgne h.symm)
          have hlen : (cs.map fun (k : Nat) => (k : Int)).length = n := by rw [List.length_map]; exact HCL.out
          refine (pmv_any gc gp n n n (cs.map fun (k : Nat) => (k : Int)) (List.replicate n 1) v wr hn hlen (by simp) ?_ ?_ ?_ ?_ HV.out ?_).mono ?_
          · intro j hj
            rw [HWf.out.cell, nats_ints, ints_get _ _ (by rw [hlen]; exact hj)]
          · intro j hj
            rw [hPx.cell, ints_get _ _ (by simpa using hj)]
          · intro j
            have h1 : (cs.map fun (k : Nat) => (k : Int)).getD j 0 = (cs.getD j 0 : Nat) := by simp [List.getD_eq_getElem?_getD]; cases cs[j]? <;> simp
            have h2 := getD_le_sum cs j
            rw [h1]; omega
          · intro j
            simp only [List.getD_eq_getElem?_getD, List.getElem?_replicate]
            split <;> simp
          · exact ones_le_sum cs n HCL.out HP.out
          rintro e w' ⟨rfl, rfl⟩
          have hlt : (FloatKind.f64.format.order v 4602318531202457272 == some Ordering.lt) = true := HLT.out
          go_wp2
          go_ret2
          refine ⟨_, rfl, ?_, HL.out.size, HL.out.alloc _⟩
          have := Whole.new wr 3 (nats [q, q + cs.sum])
          exact this
end Go.Proofs.YtojngchcghabiaaGreatDoor
