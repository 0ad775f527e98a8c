/-
  The walk over RecordPattern: where the row goes on in runs it records their widths.
-/
import Derived.Test.YtojngchcghabiaaGreatDoorTables
import Derived.Test.YtojngchcghabiaaGreatDoorRuns
namespace Go.Proofs.YtojngchcghabiaaGreatDoor
open Go Go.RowKit

/-- Natural numbers as cells. -/
def nats (cs : List Nat) : List Value := cs.map fun (n : Nat) => .int .i64 (n : Int)
theorem nats_get (cs : List Nat) (k : Nat) (h : k < cs.length) : (nats cs)[k]? = some (.int .i64 (cs.getD k 0 : Nat)) := by
  simp [nats, h]
theorem nats_set (cs : List Nat) (k n : Nat) : (nats cs).set k (.int .i64 (n : Int)) = nats (cs.set k n) := by
  simp [nats, List.map_set]

/-- A row of noughts up to k, and then what was there. -/
def zeroed (old : List Value) (k : Nat) : List Value := List.replicate k (.int .i64 0) ++ old.drop k
theorem zeroed_get (old : List Value) (k : Nat) (h : k < old.length) : (zeroed old k)[k]? = some old[k] := by
  rw [zeroed, List.getElem?_append_right (by simp)]
  simp [h]
theorem zeroed_set (old : List Value) (k : Nat) (h : k < old.length) : (zeroed old k).set k (.int .i64 0) = zeroed old (k + 1) := by
  unfold zeroed
  rw [List.set_append, if_neg (by simp)]
  simp only [List.length_replicate, Nat.sub_self]
  rw [List.drop_eq_getElem_cons h, List.set_cons_zero, List.replicate_succ', List.append_assoc]
  rfl
theorem zeroed_all (old : List Value) (n : Nat) (h : old.length = n) : zeroed old n = nats (List.replicate n 0) := by
  simp [zeroed, nats, ← h]

/-- The row from place s on is runs of the widths cs, the first of colour c, and one place more of the next colour. -/
def RunsAt (R : List Bool) (s : Nat) (c : Bool) (cs : List Nat) : Prop := s + cs.sum < R.length ∧ ∀ t, t ≤ cs.sum → R.getD (s + t) false = hue c (idx cs t)

set_option maxHeartbeats 1000000 in
theorem record_any (p gw gc s : Nat) (R : List Bool) (cs : List Nat) (c : Bool) (old : List Value) (w : World) (hB : Bits w p gw R) (hC : Whole w gc 3 old) (hol : old.length = 4) (hcl : cs.length = 4) (hpos : ∀ n ∈ cs, 0 < n) (hR : RunsAt R s c cs) :
    Calls Tryz.prog 124 #[.pointer (some ⟨p, 0, none⟩), .int .i64 s, .slice (some ⟨gc, 0, none⟩) 4 4] w fun e w' => e = .returned .nilIface ∧ Whole w' gc 3 (nats cs) ∧ Left' (some gc) w w' := by
  have hs := hB.small
  have hne : (some gc : Option Nat) ≠ some p := by
    have := hC.ne hB.head (by decide)
    simpa using this
  have hne2 : (some gc : Option Nat) ≠ some gw := by
    have := hC.ne hB.words (by decide)
    simpa using this
  have hs2 := hR.1
  have HB := Lib.hid hB
  have HR := Lib.hid hR
  have HOL := Lib.hid hol
  have HCL := Lib.hid hcl
  have HP := Lib.hid hpos
  clear hB hR hol hcl hpos
  go_enter Tryz.func124, Tryz.ntmps124
  go_wp2
  go_loopw [17] (fun i wr => ∃ k : Nat, k ≤ 4 ∧ i = .int .i64 k ∧ Whole wr gc 3 (zeroed old k) ∧ Left' (some gc) w wr) (fun i _ => 4 - (intOf i).toNat)
  case atStart => exact ⟨0, by omega, rfl, hC, Left'.refl _ _⟩
  case round =>
    obtain ⟨k, hk, rfl, hW, hL⟩ := hrel
    clear hC
    by_cases hk4 : k < 4
    · have hc1 := hW.cell k
      rw [zeroed_get old k (by rw [HOL.out]; exact hk4)] at hc1
      have hf1 := hW.frozen k
      have HW := Lib.hid hW
      have HL := Lib.hid hL
      clear hW hL
      go_wp2
      go_roundw
      case rel =>
        refine ⟨k + 1, by omega, by go_num, ?_, HL.out.setCell (.inl rfl) _⟩
        have := HW.out.set k (.int .i64 0)
        rw [zeroed_set old k (by rw [HOL.out]; exact hk4)] at this
        exact this
      case measure => simp [intOf]; omega
    · have hk' : k = 4 := by omega
      subst hk'
      rw [zeroed_all old 4 HOL.out] at hW
      have HW := Lib.hid hW
      have HL := Lib.hid hL
      clear hW hL
      go_wp2_with fail
      refine (getSize_any p gw R wr (HB.out.left HL.out hne hne2)).mono ?_
      rintro e w' ⟨rfl, rfl⟩
      go_wp2_with fail
      refine (get_any p gw s R wr (HB.out.left HL.out hne hne2) (by omega)).mono ?_
      rintro e w' ⟨rfl, rfl⟩
      have h0 := HR.out.2 0 (by omega)
      rw [idx_zero cs HP.out, hue_zero] at h0
      rw [show R.getD s false = c from h0]
      clear h0
      go_wp2
      have hp0 : 0 < cs.sum := by
        match cs, HCL.out, HP.out with
        | a :: _, _, hp => have := hp a (by simp); simp; omega
      obtain ⟨wo, rfl⟩ : ∃ wo : World, wo = wr := ⟨_, rfl⟩
      go_loopw [10, 11, 12] (fun a b i wx => ∃ t : Nat, t ≤ cs.sum ∧ a = .bool (!(hue c (pos cs t))) ∧ b = .int .i64 (pos cs t) ∧ i = .int .i64 (s + t : Nat) ∧ Whole wx gc 3 (nats (cnt cs t)) ∧ Left' (some gc) w wx) (fun _ _ i _ => s + cs.sum + 1 - (intOf i).toNat)
      case atStart =>
        refine ⟨0, by omega, ?_, ?_, rfl, ?_, HL.out⟩
        · rw [pos_zero cs HP.out, hue_zero]
        · rw [pos_zero cs HP.out]; rfl
        · rw [cnt_zero, HCL.out]; exact HW.out
      case round =>
        clear HW HL
        obtain ⟨t, ht, rfl, rfl, rfl, hW, hL⟩ := hrel
        have hBx := HB.out.left hL hne hne2
        have HW := Lib.hid hW
        have HL := Lib.hid hL
        clear hW hL
        have hpl := pos_lt cs t ht hp0
        rw [HCL.out] at hpl
        have hcol := HR.out.2 t ht
        rcases pos_or cs HP.out t ht with hsame | ⟨hnext, ht0⟩
        · have hts : t < cs.sum := by
            rcases Nat.lt_or_ge t cs.sum with h | h
            · exact h
            · have : t = cs.sum := by omega
              subst this
              rw [idx_sum, HCL.out] at hsame; omega
          rw [hsame] at hcol
          have hcell := HW.out.cell (pos cs t)
          rw [nats_get _ _ (by rw [cnt_length, HCL.out]; exact hpl)] at hcell
          have hfz := HW.out.frozen (pos cs t)
          have hle := cnt_le cs t (pos cs t)
          have HS := Lib.hid (cnt_same cs t hts hsame)
          generalize hx : (cnt cs t).getD (pos cs t) 0 = x at hcell hle HS
          generalize hy : pos cs t = y at *
          clear hx
          go_wp2_with fail
          refine (get_any p gw (s + t) R wr hBx (by omega)).mono ?_
          rintro e w' ⟨rfl, rfl⟩
          rw [hcol]
          go_wp2
          go_roundw
          case rel =>
            refine ⟨t + 1, by omega, by rw [pos_succ, hsame], by rw [pos_succ, hsame], by go_num, ?_, HL.out.setCell (.inl rfl) _⟩
            have := HW.out.set y (.int .i64 ((x + 1 : Nat) : Int))
            rw [nats_set, ← HS.out] at this
            exact this
          case measure => simp [intOf]; omega
        · rw [hnext, hue_succ] at hcol
          by_cases hts : t < cs.sum
          · have hil := idx_lt cs t hts
            rw [HCL.out, hnext] at hil
            have hcell := HW.out.cell (pos cs t + 1)
            rw [nats_get _ _ (by rw [cnt_length, HCL.out]; exact hil)] at hcell
            have hfz := HW.out.frozen (pos cs t + 1)
            have HS := Lib.hid (cnt_next cs HP.out t hts hnext)
            have HN := Lib.hid hnext
            clear hnext
            generalize hx : (cnt cs t).getD (pos cs t + 1) 0 = x at hcell
            generalize hy : pos cs t = y at *
            clear hx
            have hne4 : ((y : Int) + 1 == 4) = false := by simp; omega
            go_wp2_with fail
            refine (get_any p gw (s + t) R wr hBx (by omega)).mono ?_
            rintro e w' ⟨rfl, rfl⟩
            rw [hcol]
            go_wp2
            go_roundw
            case rel =>
              refine ⟨t + 1, by omega, by rw [pos_succ, HN.out, hue_succ, Bool.not_not], by rw [pos_succ, HN.out]; go_num, by go_num, ?_, HL.out.setCell (.inl rfl) _⟩
              have := HW.out.set (y + 1) (.int .i64 ((1 : Nat) : Int))
              rw [nats_set, ← HS.out] at this
              exact this
            case measure => simp [intOf]; omega
          · have hte : t = cs.sum := by omega
            subst hte
            have hpl3 := pos_last cs HP.out hp0
            rw [HCL.out] at hpl3
            have hp3 : pos cs cs.sum = 3 := by omega
            rw [hp3] at hcol ⊢
            have HWf := Lib.hid HW.out
            rw [cnt_sum cs cs.sum (Nat.le_refl _)] at HWf
            clear hpl3 hnext hp3
            go_wp2_with fail
            refine (get_any p gw (s + cs.sum) R wr hBx (by omega)).mono ?_
            rintro e w' ⟨rfl, rfl⟩
            rw [hcol]
            go_wp2
            go_ret
            exact ⟨rfl, HWf.out, HL.out⟩
end Go.Proofs.YtojngchcghabiaaGreatDoor
