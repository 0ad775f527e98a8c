/- The walk over FnODUpcEBack. -/
import Derived.Test.YtojngchcghabiaaGreatDoorWalkEight
import Derived.Test.YtojngchcghabiaaGreatDoorLawUpce
import Derived.Test.YtojngchcghabiaaGreatDoorSpecUpce
import Derived.Test.YtojngchcghabiaaGreatDoorOwnedUpce
namespace Go.Proofs.YtojngchcghabiaaGreatDoor
open Go Go.RowKit

theorem symE_length (ds : Nat → Nat) (hd : ∀ i, ds i < 10) : (bars true (symE ds)).length = 51 := by
  rw [bars_length]
  unfold symE
  simp only [List.sum_append, digs_sum (pe ds) 0 (pe_lt ds hd)]
  rfl

/-- Seven digits with their check digit. -/
def moreE (ds : Nat → Nat) (i : Nat) : Nat := if i < 7 then ds i else chd (wd ds) 11
theorem moreE_text (ds : Nat → Nat) : textOf (moreE ds) 8 = textOf ds 7 ++ one (chd (wd ds) 11) := by
  rw [textOf_snoc, textOf_congr (ds' := ds) fun i hi => by simp [moreE, hi]]
  simp [moreE]
theorem moreE_lt (ds : Nat → Nat) (h : ∀ i, ds i < 10) (i : Nat) : moreE ds i < 10 := by
  unfold moreE
  split
  · exact h i
  · exact chd_lt _ _
theorem moreE_wide (ds : Nat → Nat) : wideL (moreE ds) = wideL ds := by simp [wideL, moreE]
theorem wd_head (ds ds' : Nat → Nat) (h : wideL ds = wideL ds') (i : Nat) (hi : i < 11) : wd ds i = wd ds' i := by
  unfold wd
  rw [List.getD_eq_getElem?_getD, List.getD_eq_getElem?_getD, List.getElem?_append_left (by rw [wideL_length]; exact hi), List.getElem?_append_left (by rw [wideL_length]; exact hi), h]
theorem moreE_check (ds : Nat → Nat) : moreE ds 7 = chd (wd (moreE ds)) 11 := by
  rw [chd_congr (ds' := wd ds) fun i hi => wd_head _ _ (moreE_wide ds) i hi]
  simp [moreE]

set_option maxHeartbeats 2000000 in
/-- The law behind the check: a text whose symbol is drawn and read. -/
theorem lawE_good (s : ByteArray) (ds : Nat → Nat) (p0 p1 p2 : Nat) (w : World) (h0 : p0 < 256) (h1 : p1 < 256) (h2 : p2 < 256) (hs : s.size ≤ 2147483647) (hT : Tab w)
    (hck : ∀ w, Calls Tryz.prog 6 #[.int .i64 15, .string s] w fun e w' => e = .returned (.tuple #[.string (textOf ds 8), .bool true]) ∧ Left' none w w')
    (hw : WritesE (textOf ds 8) (bars true (symE ds))) (hd : ∀ i, ds i < 10) (h2d : ds 0 < 2) (hc : ds 7 = chd (wd ds) 11) :
    Calls Tryz.prog 4 #[.string s, .agg #[.int .u8 p0, .int .u8 p1, .int .u8 p2]] w fun e w' => e = .returned (.bool true) ∧ Left' none w w' := by
  have HA := Lib.hid (And.intro hT (And.intro hw (And.intro hd (And.intro h2d hc))))
  have HCK := Lib.hid hck
  clear hT hw hd h2d hc hck
  go_enter Tryz.func4, Tryz.ntmps4
  go_wp2_with fail
  generalize hw0 : World.alloc _ _ = w0
  have HW := Lib.hid (show Whole w0 w.heap.size 22 [.int .u8 p0, .int .u8 p1, .int .u8 p2] by rw [← hw0]; exact Whole.new _ _ _)
  have HL := Lib.hid (show Left' none w w0 by rw [← hw0]; exact (Left'.refl _ _).alloc _)
  clear hw0
  refine (HCK.out w0).mono ?_
  rintro e w1 ⟨rfl, hL1⟩
  have HW1 := Lib.hid (HW.out.left hL1 (by simp))
  have HL1 := Lib.hid (HL.out.trans hL1)
  clear hL1 HL HW
  go_wp2_with fail
  have hlen : (bars true (symE ds)).length = 51 := symE_length ds HA.out.2.2.1
  refine (odBarsE_any (textOf ds 8) _ w1 HA.out.2.1 (by omega) (by omega)).mono ?_
  rintro e w2 ⟨g, cap, rfl, hO, hL2⟩
  have HW2 := Lib.hid (HW1.out.left hL2 (by simp))
  have HL2 := Lib.hid (HL1.out.trans hL2)
  have HO := Lib.hid (own_row hO)
  clear hL2 HL1 HW1 hO
  have c0 := HW2.out.cell 0
  have c1 := HW2.out.cell 1
  have c2 := HW2.out.cell 2
  go_wp2_with fail
  have hpl := placed_any (.agg #[.int .u8 p0, .int .u8 p1, .int .u8 p2]) g cap p0 p1 p2 (bars true (symE ds)) w2 rfl h0 h1 h2 HO.out.1 HO.out.2 (by omega)
  rw [hlen] at hpl
  refine hpl.mono ?_
  clear hpl
  rintro e w3 ⟨v, rfl, g3, cap3, rfl, hO3, hL3⟩
  have hb1 : 0 < byOf p0 ∧ byOf p0 ≤ 4 := by unfold byOf; omega
  have HS := Lib.hid (symE_of (quietOf (byOf p0) p1) (quietOf (byOf p0) p2) (byOf p0) ds HA.out.2.2.1 HA.out.2.2.2.1 HA.out.2.2.2.2 hb1.1 hb1.2 (quiet_ge _ _) (quiet_le _ _ hb1.1 hb1.2) (quiet_ge _ _) (quiet_le _ _ hb1.1 hb1.2))
  have HL3 := Lib.hid (HL2.out.trans hL3)
  have HO3 := Lib.hid (own_row hO3)
  clear hL3 HL2 HW2 HO hO3 hlen c0 c1 c2
  generalize List.replicate _ false ++ stretch _ _ ++ List.replicate _ false = R at *
  go_wp2_with fail
  refine (odRowE_any g3 cap3 _ _ ds (pe ds) R w3 HS.out HO3.out.1 HO3.out.2 (tab_left HA.out.1 HL3.out (tab_pos HA.out.1) (by simp))).mono ?_
  rintro e w4 ⟨rfl, hL4⟩
  have HL4 := Lib.hid (HL3.out.trans hL4)
  clear hL4 HL3 HO3 HS
  go_wp2
  go_ret
  exact ⟨by simp, HL4.out⟩

set_option maxHeartbeats 2000000 in
/-- The law at a text that is no code. -/
theorem lawE_bad (s x : ByteArray) (v : Value) (p0 p1 p2 : Nat) (w : World) (hs : s.size ≤ 2147483647) (hv : v = .agg #[.int .u8 p0, .int .u8 p1, .int .u8 p2])
    (hck : ∀ w, Calls Tryz.prog 6 #[.int .i64 15, .string s] w fun e w' => e = .returned (.tuple #[.string x, .bool false]) ∧ Left' none w w') :
    Calls Tryz.prog 4 #[.string s, v] w fun e w' => e = .returned (.bool true) ∧ Left' none w w' := by
  subst hv
  have HCK := Lib.hid hck
  clear hck
  go_enter Tryz.func4, Tryz.ntmps4
  go_wp2_with fail
  generalize hw0 : World.alloc _ _ = w0
  have HL := Lib.hid (show Left' none w w0 by rw [← hw0]; exact (Left'.refl _ _).alloc _)
  clear hw0
  refine (HCK.out w0).mono ?_
  rintro e w1 ⟨rfl, hL1⟩
  have HL1 := Lib.hid (HL.out.trans hL1)
  clear hL1 HL
  go_wp2
  go_ret
  exact ⟨rfl, HL1.out⟩

set_option maxHeartbeats 2000000 in
/-- The law at a text that is too long. -/
theorem lawE_long (s : ByteArray) (v : Value) (p0 p1 p2 : Nat) (w : World) (hs : 2147483647 < s.size) (hv : v = .agg #[.int .u8 p0, .int .u8 p1, .int .u8 p2]) :
    Calls Tryz.prog 4 #[.string s, v] w fun e w' => e = .returned (.bool true) ∧ Left' none w w' := by
  subst hv
  go_enter Tryz.func4, Tryz.ntmps4
  go_wp2
  go_ret
  exact ⟨rfl, (Left'.refl _ _).alloc _⟩

/-- FnODUpcEBack answers true. -/
theorem lawE_any (s : ByteArray) (p0 p1 p2 : Nat) (w : World) (h0 : p0 < 256) (h1 : p1 < 256) (h2 : p2 < 256) (hT : Tab w) :
    Calls Tryz.prog 4 #[.string s, .agg #[.int .u8 p0, .int .u8 p1, .int .u8 p2]] w fun e w' => e = .returned (.bool true) ∧ Left' none w w' := by
  by_cases hs : s.size ≤ 2147483647
  · by_cases h7 : IsDig s 7
    · obtain ⟨ds, hds⟩ := h7.says
      by_cases hz : ds 0 < 2
      · have hck := fun w => checkedE_seven s ds w hds hz
        rw [← moreE_text] at hck
        have hlt := moreE_lt ds hds.dig
        have hz' : moreE ds 0 < 2 := by simpa [moreE] using hz
        exact lawE_good s (moreE ds) p0 p1 p2 w h0 h1 h2 hs hT hck (fun w => writeE_eight _ _ (moreE ds) w (textOf_says _ 8 hlt) hz' (moreE_check ds) rfl) hlt hz' (moreE_check ds)
      · exact lawE_bad s _ _ p0 p1 p2 w hs rfl fun w => checkedE_seven_big s ds w hds (by omega)
    · by_cases h8 : IsDig s 8
      · obtain ⟨ds, hds⟩ := h8.says
        by_cases hz : ds 0 < 2
        · have hck := fun w => checkedE_eight s ds w hds hz
          by_cases hc : ds 7 = chd (wd ds) 11
          · rw [← hc, ← textOf_snoc] at hck
            simp only [decide_true] at hck
            exact lawE_good s ds p0 p1 p2 w h0 h1 h2 hs hT hck (fun w => writeE_eight _ _ ds w (textOf_says ds 8 hds.dig) hz hc rfl) hds.dig hz hc
          · simp only [hc, decide_false] at hck
            exact lawE_bad s _ _ p0 p1 p2 w hs rfl hck
        · exact lawE_bad s _ _ p0 p1 p2 w hs rfl fun w => checkedE_eight_big s ds w hds (by omega)
      · exact lawE_bad s _ _ p0 p1 p2 w hs rfl fun w => checkedE_no s w h7 h8 hs
  · exact lawE_long s _ p0 p1 p2 w (by omega) rfl
end Go.Proofs.YtojngchcghabiaaGreatDoor
