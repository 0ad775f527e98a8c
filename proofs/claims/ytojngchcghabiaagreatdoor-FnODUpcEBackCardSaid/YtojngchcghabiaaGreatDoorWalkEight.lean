/- The walk over FnODEan8Back. -/
import Derived.Test.YtojngchcghabiaaGreatDoorLawEight
namespace Go.Proofs.YtojngchcghabiaaGreatDoor
open Go Go.RowKit

theorem own_row {w : World} {base g n c : Nat} {L : List Bool} (h : w.ownsRow base 4 1 (.slice (some ⟨g, 0, none⟩) n c) n (L.map Value.bool)) : (∀ i, i < L.length → w.cell? ⟨g, i, none⟩ = some (.bool (L.getD i false))) ∧ g < w.heap.size := by
  refine ⟨fun i hi => ?_, (h.lt g rfl).2⟩
  have := h.cells (g := g) rfl i (.bool (L.getD i false)) (by simp [hi])
  rw [Addr.add_lit, Nat.zero_add] at this
  exact this

theorem tab_pos {w : World} (h : Tab w) : 0 < w.heap.size := World.block_lt_of_cell? w ⟨0, 0, none⟩ (h 0 (by omega))

theorem quiet_ge (b p : Nat) : 10 * b ≤ quietOf b p := by unfold quietOf; omega
theorem quiet_le (b p : Nat) (hb : 0 < b) (hb4 : b ≤ 4) : quietOf b p ≤ 120 := by
  unfold quietOf
  have := Nat.mod_lt p (show 0 < 20 * b by omega)
  omega

theorem sym8_length (ds : Nat → Nat) (h20 : ∀ i, ds i < 20) : (bars true (sym8 ds)).length = 67 := by
  rw [bars_length]
  unfold sym8
  simp only [List.sum_append, digs_sum ds 0 h20, digs_sum ds 4 h20]
  rfl

set_option maxHeartbeats 2000000 in
/-- The law behind the check: a text whose symbol is drawn and read. -/
theorem law8_good (s : ByteArray) (ds : Nat → Nat) (p0 p1 p2 : Nat) (w : World) (h0 : p0 < 256) (h1 : p1 < 256) (h2 : p2 < 256) (hs : s.size ≤ 2147483647) (hT : Tab w)
    (hck : ∀ w, Calls Tryz.prog 6 #[.int .i64 6, .string s] w fun e w' => e = .returned (.tuple #[.string (textOf ds 8), .bool true]) ∧ Left' none w w')
    (hw : Writes8 s (bars true (sym8 ds))) (hd : ∀ i, ds i < 10) (hc : ds 7 = chd ds 7) :
    Calls Tryz.prog 3 #[.string s, .agg #[.int .u8 p0, .int .u8 p1, .int .u8 p2]] w fun e w' => e = .returned (.bool true) ∧ Left' none w w' := by
  have HA := Lib.hid (And.intro hT (And.intro hw (And.intro hd hc)))
  have HCK := Lib.hid hck
  clear hT hw hd hc hck
  go_enter Tryz.func3, Tryz.ntmps3
  go_wp2_with fail
  generalize hw0 : World.alloc _ _ = w0
  have HW := Lib.hid (show Whole w0 w.heap.size 22 [.int .u8 p0, .int .u8 p1, .int .u8 p2] by rw [← hw0]; exact Whole.new _ _ _)
  have HL := Lib.hid (show Left' none w w0 by rw [← hw0]; exact (Left'.refl _ _).alloc _)
  clear hw0
  refine (HCK.out w0).mono ?_
  rintro e w1 ⟨rfl, hL1⟩
  have HW1 := Lib.hid (HW.out.left hL1 (by simp))
  have HL1 := Lib.hid (HL.out.trans hL1)
  clear hL1 HL HW
  go_wp2_with fail
  have hlen : (bars true (sym8 ds)).length = 67 := sym8_length ds (fun i => by have := HA.out.2.2.1 i; omega)
  refine (odBars8_any s _ w1 HA.out.2.1 (by omega) (by omega)).mono ?_
  rintro e w2 ⟨g, cap, rfl, hO, hL2⟩
  have HW2 := Lib.hid (HW1.out.left hL2 (by simp))
  have HL2 := Lib.hid (HL1.out.trans hL2)
  have HO := Lib.hid (own_row hO)
  clear hL2 HL1 HW1 hO
  have c0 := HW2.out.cell 0
  have c1 := HW2.out.cell 1
  have c2 := HW2.out.cell 2
  go_wp2_with fail
  have hpl := placed_any (.agg #[.int .u8 p0, .int .u8 p1, .int .u8 p2]) g cap p0 p1 p2 (bars true (sym8 ds)) w2 rfl h0 h1 h2 HO.out.1 HO.out.2 (by omega)
  rw [hlen] at hpl
  refine hpl.mono ?_
  clear hpl
  rintro e w3 ⟨v, rfl, g3, cap3, rfl, hO3, hL3⟩
  have hb1 : 0 < byOf p0 ∧ byOf p0 ≤ 4 := by unfold byOf; omega
  have HS := Lib.hid (sym8_of (quietOf (byOf p0) p1) (quietOf (byOf p0) p2) (byOf p0) ds HA.out.2.2.1 HA.out.2.2.2 hb1.1 hb1.2 (quiet_ge _ _) (quiet_le _ _ hb1.1 hb1.2) (quiet_ge _ _) (quiet_le _ _ hb1.1 hb1.2))
  have HL3 := Lib.hid (HL2.out.trans hL3)
  have HO3 := Lib.hid (own_row hO3)
  clear hL3 HL2 HW2 HO hO3 hlen c0 c1 c2
  generalize List.replicate _ false ++ stretch _ _ ++ List.replicate _ false = R at *
  go_wp2_with fail
  refine (odRow8_any g3 cap3 _ _ ds R w3 HS.out HO3.out.1 HO3.out.2 (tab_left HA.out.1 HL3.out (tab_pos HA.out.1) (by simp))).mono ?_
  rintro e w4 ⟨rfl, hL4⟩
  have HL4 := Lib.hid (HL3.out.trans hL4)
  clear hL4 HL3 HO3 HS
  go_wp2
  go_ret
  exact ⟨by simp, HL4.out⟩

set_option maxHeartbeats 2000000 in
/-- The law at a text that is no code. -/
theorem law8_bad (s x : ByteArray) (v : Value) (p0 p1 p2 : Nat) (w : World) (hs : s.size ≤ 2147483647) (hv : v = .agg #[.int .u8 p0, .int .u8 p1, .int .u8 p2])
    (hck : ∀ w, Calls Tryz.prog 6 #[.int .i64 6, .string s] w fun e w' => e = .returned (.tuple #[.string x, .bool false]) ∧ Left' none w w') :
    Calls Tryz.prog 3 #[.string s, v] w fun e w' => e = .returned (.bool true) ∧ Left' none w w' := by
  subst hv
  have HCK := Lib.hid hck
  clear hck
  go_enter Tryz.func3, Tryz.ntmps3
  go_wp2_with fail
  generalize hw0 : World.alloc _ _ = w0
  have HL := Lib.hid (show Left' none w w0 by rw [← hw0]; exact (Left'.refl _ _).alloc _)
  clear hw0
  refine (HCK.out w0).mono ?_
  rintro e w1 ⟨rfl, hL1⟩
  have HL1 := Lib.hid (HL.out.trans hL1)
  clear hL1 HL
  go_wp2
  go_ret
  exact ⟨rfl, HL1.out⟩

set_option maxHeartbeats 2000000 in
/-- The law at a text that is too long. -/
theorem law8_long (s : ByteArray) (v : Value) (p0 p1 p2 : Nat) (w : World) (hs : 2147483647 < s.size) (hv : v = .agg #[.int .u8 p0, .int .u8 p1, .int .u8 p2]) :
    Calls Tryz.prog 3 #[.string s, v] w fun e w' => e = .returned (.bool true) ∧ Left' none w w' := by
  subst hv
  go_enter Tryz.func3, Tryz.ntmps3
  go_wp2
  go_ret
  exact ⟨rfl, (Left'.refl _ _).alloc _⟩

theorem alt_congr {ds ds' : Nat → Nat} : ∀ {n : Nat}, (∀ i, i < n → ds i = ds' i) → alt ds n = alt ds' n
  | 0, _ => rfl
  | 1, h => by simp [alt, h 0 (by omega)]
  | n + 2, h => by
    have ih := alt_congr (n := n) fun i hi => h i (by omega)
    simp only [alt, ih, h (n + 1) (by omega)]
theorem chd_congr {ds ds' : Nat → Nat} {n : Nat} (h : ∀ i, i < n → ds i = ds' i) : chd ds n = chd ds' n := by
  unfold chd chk
  rw [alt_congr h, alt_congr (n := n - 1) fun i hi => h i (by omega)]

/-- FnODEan8Back answers true. -/
theorem law8_any (s : ByteArray) (p0 p1 p2 : Nat) (w : World) (h0 : p0 < 256) (h1 : p1 < 256) (h2 : p2 < 256) (hT : Tab w) :
    Calls Tryz.prog 3 #[.string s, .agg #[.int .u8 p0, .int .u8 p1, .int .u8 p2]] w fun e w' => e = .returned (.bool true) ∧ Left' none w w' := by
  by_cases hs : s.size ≤ 2147483647
  · by_cases h7 : IsDig s 7
    · obtain ⟨ds, hds⟩ := h7.says
      have hck := fun w => checked8_seven s ds w hds
      rw [← more_text] at hck
      refine law8_good s (more ds 7) p0 p1 p2 w h0 h1 h2 hs hT hck (fun w => write8_seven _ s ds w hds rfl) (more_says hds).dig ?_
      rw [chd_congr (ds' := ds) fun i hi => by simp [more, hi]]
      simp [more]
    · by_cases h8 : IsDig s 8
      · obtain ⟨ds, hds⟩ := h8.says
        have hck := fun w => checked8_eight s ds w hds
        by_cases hc : ds 7 = chd ds 7
        · rw [← hc, ← textOf_snoc] at hck
          simp only [decide_true] at hck
          exact law8_good s ds p0 p1 p2 w h0 h1 h2 hs hT hck (fun w => write8_eight _ s ds w hds hc rfl) hds.dig hc
        · simp only [hc, decide_false] at hck
          exact law8_bad s _ _ p0 p1 p2 w hs rfl hck
      · exact law8_bad s _ _ p0 p1 p2 w hs rfl fun w => checked8_no s w h7 h8 hs
  · exact law8_long s _ p0 p1 p2 w (by omega) rfl
end Go.Proofs.YtojngchcghabiaaGreatDoor
