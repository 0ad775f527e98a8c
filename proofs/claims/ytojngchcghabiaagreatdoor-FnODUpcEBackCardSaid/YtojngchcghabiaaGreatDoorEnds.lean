/-
  The walks over small functions of the readers: the end of a code, the check, the formats, the result.
-/
import Derived.Test.YtojngchcghabiaaGreatDoorCheck
namespace Go.Proofs.YtojngchcghabiaaGreatDoor
open Go Go.RowKit

theorem check156_any (s : ByteArray) (n : Nat) (ds : Nat → Nat) (w : World) (h : Says s (n + 1) ds) (hn0 : 0 < n) (hn : n ≤ 13) (hc : ds n = chd ds n) :
    Calls Tryz.prog 156 #[.string s] w fun e w' => e = .returned (.tuple #[.bool true, .nilIface]) ∧ w = w' := by
  have H := Lib.hid (And.intro h (And.intro hn0 (And.intro hn hc)))
  clear h hn0 hn hc
  go_enter Tryz.func156, Tryz.ntmps156
  go_wp2_with fail
  obtain ⟨h, hn0, hn, hc⟩ := H.out
  refine (standardOk_any s n ds w h hn0 hn hc).mono ?_
  rintro e w' ⟨rfl, rfl⟩
  clear h hn0 hn hc
  go_wp2
  go_ret2
  exact ⟨rfl, rfl⟩

theorem check8_any (v : Value) (s : ByteArray) (n : Nat) (ds : Nat → Nat) (w : World) (h : Says s (n + 1) ds) (hn0 : 0 < n) (hn : n ≤ 13) (hc : ds n = chd ds n) :
    Calls Tryz.prog 152 #[v, .string s] w fun e w' => e = .returned (.tuple #[.bool true, .nilIface]) ∧ w = w' := by
  have H := Lib.hid (And.intro h (And.intro hn0 (And.intro hn hc)))
  clear h hn0 hn hc
  go_enter Tryz.func152, Tryz.ntmps152
  go_wp2_with fail
  obtain ⟨h, hn0, hn, hc⟩ := H.out
  refine (check156_any s n ds w h hn0 hn hc).mono ?_
  rintro e w' ⟨rfl, rfl⟩
  clear h hn0 hn hc
  go_wp2
  go_ret2
  exact ⟨rfl, rfl⟩

theorem check13_any (v : Value) (s : ByteArray) (n : Nat) (ds : Nat → Nat) (w : World) (h : Says s (n + 1) ds) (hn0 : 0 < n) (hn : n ≤ 13) (hc : ds n = chd ds n) :
    Calls Tryz.prog 168 #[v, .string s] w fun e w' => e = .returned (.tuple #[.bool true, .nilIface]) ∧ w = w' := by
  have H := Lib.hid (And.intro h (And.intro hn0 (And.intro hn hc)))
  clear h hn0 hn hc
  go_enter Tryz.func168, Tryz.ntmps168
  go_wp2_with fail
  obtain ⟨h, hn0, hn, hc⟩ := H.out
  refine (check156_any s n ds w h hn0 hn hc).mono ?_
  rintro e w' ⟨rfl, rfl⟩
  clear h hn0 hn hc
  go_wp2
  go_ret2
  exact ⟨rfl, rfl⟩

/-- The end of an EAN code. -/
theorem end157_any (p gw q b : Nat) (R : List Bool) (w : World) (hb : 0 < b) (hb4 : b ≤ 4) (hB : Bits w p gw R) (hT : Tab w) (hR : RunsAt R q true [b, b, b]) :
    Calls Tryz.prog 157 #[.pointer (some ⟨p, 0, none⟩), .int .i64 q] w (Found none q (q + 3 * b) w) := by
  have hw0 := hB.head.lt
  obtain ⟨v, hv1, hv2⟩ := ones_pmv b 3 hb hb4 (by omega)
  have H := Lib.hid (And.intro hB (And.intro hT (And.intro hR (And.intro hv1 hv2))))
  clear hB hT hR hv1 hv2
  go_enter Tryz.func157, Tryz.ntmps157
  go_wp2_with fail
  refine (startEnd_any w).mono ?_
  rintro e w1 ⟨gp, rfl, hW1, hgp, hL1⟩
  have HX := Lib.hid (And.intro hW1 hL1)
  clear hW1 hL1
  go_wp2_with fail
  obtain ⟨hB, hT, hR, hv1, hv2⟩ := H.out
  obtain ⟨hW1, hL1⟩ := HX.out
  refine (find_any p gw gp q q 3 v false R [b, b, b] w1 (hB.left hL1 (by simp) (by simp)) (tab_left hT hL1 (by omega) (by simp)) hW1 (by omega) rfl (by simpa using hb) (by simp; omega) (Nat.le_refl _) (fun i h1 h2 => by omega) hR hv1 hv2).mono ?_
  rintro e w2 ⟨gf, rfl, hW2, hz2, hL2⟩
  have e3 : q + [b, b, b].sum = q + 3 * b := by simp; omega
  rw [e3] at hW2
  have HF := Lib.hid (And.intro hW2 (And.intro hz2 (hL1.trans hL2)))
  have hsz := hL1.size
  clear hW2 hz2 hL2 hB hT hR hv1 hv2 hW1 hL1 e3
  go_wp2
  go_ret2
  obtain ⟨hW, hz, hL⟩ := HF.out
  exact ⟨gf, rfl, hW, by omega, hL⟩
theorem end8_any (v : Value) (p gw q b : Nat) (R : List Bool) (w : World) (hb : 0 < b) (hb4 : b ≤ 4) (hB : Bits w p gw R) (hT : Tab w) (hR : RunsAt R q true [b, b, b]) :
    Calls Tryz.prog 153 #[v, .pointer (some ⟨p, 0, none⟩), .int .i64 q] w (Found none q (q + 3 * b) w) := by
  have H := Lib.hid (And.intro hB (And.intro hT hR))
  clear hB hT hR
  go_enter Tryz.func153, Tryz.ntmps153
  go_wp2_with fail
  obtain ⟨hB, hT, hR⟩ := H.out
  refine (end157_any p gw q b R w hb hb4 hB hT hR).mono ?_
  rintro e w1 ⟨gf, rfl, hF⟩
  have HF := Lib.hid hF
  clear hF hB hT hR
  go_wp2
  go_ret2
  exact ⟨gf, rfl, HF.out⟩
theorem end13_any (v : Value) (p gw q b : Nat) (R : List Bool) (w : World) (hb : 0 < b) (hb4 : b ≤ 4) (hB : Bits w p gw R) (hT : Tab w) (hR : RunsAt R q true [b, b, b]) :
    Calls Tryz.prog 169 #[v, .pointer (some ⟨p, 0, none⟩), .int .i64 q] w (Found none q (q + 3 * b) w) := by
  have H := Lib.hid (And.intro hB (And.intro hT hR))
  clear hB hT hR
  go_enter Tryz.func169, Tryz.ntmps169
  go_wp2_with fail
  obtain ⟨hB, hT, hR⟩ := H.out
  refine (end157_any p gw q b R w hb hb4 hB hT hR).mono ?_
  rintro e w1 ⟨gf, rfl, hF⟩
  have HF := Lib.hid hF
  clear hF hB hT hR
  go_wp2
  go_ret2
  exact ⟨gf, rfl, HF.out⟩
/-- The end of a UPC-E code. -/
theorem endE_any (v : Value) (p gw q b : Nat) (R : List Bool) (w : World) (hb : 0 < b) (hb4 : b ≤ 4) (hB : Bits w p gw R) (hT : Tab w) (hR : RunsAt R q false [b, b, b, b, b, b]) :
    Calls Tryz.prog 162 #[v, .pointer (some ⟨p, 0, none⟩), .int .i64 q] w (Found none q (q + 6 * b) w) := by
  have hw0 := hB.head.lt
  obtain ⟨v, hv1, hv2⟩ := ones_pmv b 6 hb hb4 (by omega)
  have H := Lib.hid (And.intro hB (And.intro hT (And.intro hR (And.intro hv1 hv2))))
  clear hB hT hR hv1 hv2
  go_enter Tryz.func162, Tryz.ntmps162
  go_wp2_with fail
  refine (middleEnd_any w).mono ?_
  rintro e w1 ⟨gp, rfl, hW1, hgp, hL1⟩
  have HX := Lib.hid (And.intro hW1 hL1)
  clear hW1 hL1
  go_wp2_with fail
  obtain ⟨hB, hT, hR, hv1, hv2⟩ := H.out
  obtain ⟨hW1, hL1⟩ := HX.out
  refine (find_any p gw gp q q 6 v true R [b, b, b, b, b, b] w1 (hB.left hL1 (by simp) (by simp)) (tab_left hT hL1 (by omega) (by simp)) hW1 (by omega) rfl (by simpa using hb) (by simp; omega) (Nat.le_refl _) (fun i h1 h2 => by omega) hR hv1 hv2).mono ?_
  rintro e w2 ⟨gf, rfl, hW2, hz2, hL2⟩
  have e3 : q + [b, b, b, b, b, b].sum = q + 6 * b := by simp; omega
  rw [e3] at hW2
  have HF := Lib.hid (And.intro hW2 (And.intro hz2 (hL1.trans hL2)))
  have hsz := hL1.size
  clear hW2 hz2 hL2 hB hT hR hv1 hv2 hW1 hL1 e3
  go_wp2
  go_ret2
  obtain ⟨hW, hz, hL⟩ := HF.out
  exact ⟨gf, rfl, hW, by omega, hL⟩

/-- The look for an extension, where no dark place follows. -/
theorem ext_any (v : Value) (p gw m : Nat) (rn : Int) (R : List Bool) (w : World) (hB : Bits w p gw R) (hm : m < R.length) (hlo : ∀ i, m ≤ i → R.getD i false = false) :
    Calls Tryz.prog 66 #[v, .int .i64 rn, .pointer (some ⟨p, 0, none⟩), .int .i64 m] w fun e w' => e = .returned (.tuple #[.pointer none, .iface 114 (.agg #[nfText, .nilIface])]) ∧ Left' none w w' := by
  have H := Lib.hid (And.intro hB hlo)
  clear hB hlo
  go_enter Tryz.func66, Tryz.ntmps66
  go_wp2_with fail
  refine (extStart_any w).mono ?_
  rintro e w1 ⟨gp, rfl, hW1, hgp, hL1⟩
  have HX := Lib.hid hL1
  clear hW1 hL1
  go_wp2_with fail
  refine (find_none p gw gp m 3 R w1 (H.out.1.left HX.out (by simp) (by simp)) (by omega) hm H.out.2).mono ?_
  rintro e w2 ⟨rfl, hL2⟩
  have HF := Lib.hid (HX.out.trans hL2)
  clear hL2
  go_wp2
  go_ret2
  exact ⟨rfl, HF.out⟩

theorem fmt8_any (v : Value) (w : World) : Calls Tryz.prog 155 #[v] w fun e w' => e = .returned (.int .i64 6) ∧ w = w' := by
  go_enter Tryz.func155, Tryz.ntmps155
  go_wp2
  go_ret
  exact ⟨rfl, rfl⟩
theorem fmt13_any (v : Value) (w : World) : Calls Tryz.prog 171 #[v] w fun e w' => e = .returned (.int .i64 7) ∧ w = w' := by
  go_enter Tryz.func171, Tryz.ntmps171
  go_wp2
  go_ret
  exact ⟨rfl, rfl⟩
theorem fmtE_any (v : Value) (w : World) : Calls Tryz.prog 164 #[v] w fun e w' => e = .returned (.int .i64 15) ∧ w = w' := by
  go_enter Tryz.func164, Tryz.ntmps164
  go_wp2
  go_ret
  exact ⟨rfl, rfl⟩

/-- NewResultPoint. -/
theorem point_any (a b : Nat) (w : World) : Calls Tryz.prog 59 #[.float .f64 a, .float .f64 b] w fun e w' => e = .returned (.iface 166 (.agg #[.float .f64 a, .float .f64 b])) ∧ w = w' := by
  have hmk : ∀ (x : Value) (w : World), (Instr.makeInterface 166 x).run Tryz.prog w = .ok (.iface 166 x) w := fun x w => run_makeInterface w 166 x (by kernel_rfl)
  go_enter Tryz.func59, Tryz.ntmps59
  go_wp2
  go_ret
  exact ⟨rfl, rfl⟩

/-- NewResult: a new result without metadata. -/
theorem result_any (s : ByteArray) (gp : Nat) (f : Int) (w : World) :
    Calls Tryz.prog 65 #[.string s, .slice none 0 0, .slice (some ⟨gp, 0, none⟩) 2 2, .int .i64 f] w fun e w' => e = .returned (.pointer (some ⟨w.heap.size, 0, none⟩)) ∧ w' = w.alloc (.cells #[.string s, .slice none 0 0, .int .i64 0, .slice (some ⟨gp, 0, none⟩) 2 2, .int .i64 f, .map none, .int .i64 0] 71) := by
  go_enter Tryz.func65, Tryz.ntmps65
  go_wp2
  go_ret
  exact ⟨rfl, rfl⟩
end Go.Proofs.YtojngchcghabiaaGreatDoor
