/-
  The walk over decodeRowWithStartRange of the EAN-8 reader.
-/
import Derived.Test.YtojngchcghabiaaGreatDoorBytes
import Derived.BigQuiet
import Derived.Deep.QuietTactic
import Derived.StillTailTactics
namespace Go.Proofs.YtojngchcghabiaaGreatDoor
open Go Go.RowKit

theorem mid8_call (r : Addr) (x y z : Value) (w : World) : (callMethod (.iface 48 (.pointer (some r))) "given.example/pub-quietlane/pub/gozxing/oned.decodeMiddle" #[x, y, z]).run Tryz.prog w = .ok (.enter 154 #[.pointer (some r), x, y, z]) w := by kernel_rfl
theorem end8_call (r : Addr) (x y : Value) (w : World) : (callMethod (.iface 48 (.pointer (some r))) "given.example/pub-quietlane/pub/gozxing/oned.decodeEnd" #[x, y]).run Tryz.prog w = .ok (.enter 153 #[.pointer (some r), x, y]) w := by kernel_rfl
theorem check8_call (r : Addr) (x : Value) (w : World) : (callMethod (.iface 48 (.pointer (some r))) "given.example/pub-quietlane/pub/gozxing/oned.checkChecksum" #[x]).run Tryz.prog w = .ok (.enter 152 #[.pointer (some r), x]) w := by kernel_rfl
theorem fmt8_call (r : Addr) (w : World) : (callMethod (.iface 48 (.pointer (some r))) "given.example/pub-quietlane/pub/gozxing/oned.getBarcodeFormat" #[]).run Tryz.prog w = .ok (.enter 155 #[.pointer (some r)]) w := by kernel_rfl

theorem check8_meth (r : Addr) (w : World) : (method 379 48 (.pointer (some r)) "given.example/pub-quietlane/pub/gozxing/oned.checkChecksum").run Tryz.prog w = .ok (152, .pointer (some r)) w := by kernel_rfl
theorem fmt8_meth (r : Addr) (w : World) : (method 379 48 (.pointer (some r)) "given.example/pub-quietlane/pub/gozxing/oned.getBarcodeFormat").run Tryz.prog w = .ok (155, .pointer (some r)) w := by kernel_rfl

theorem Bits.drew' {w : World} {p gw : Nat} {R : List Bool} (h : Bits w p gw R) : Bits w.drew p gw R := ⟨h.head, h.words, h.small⟩
theorem Kept.more {S S' : List Nat} {w w' : World} (h : Kept S w w') (hs : ∀ g, g ∈ S → g ∈ S') : Kept S' w w' := ⟨h.os, h.tape, h.output, h.size, fun k hk hn => h.block k hk (fun e => hn (hs k e))⟩

set_option maxRecDepth 100000 in
set_option maxHeartbeats 4000000 in
theorem row8_any (p gw r u gb gc gs q q1 q2 q3 b : Nat) (ds : Nat → Nat) (R : List Bool) (w : World) (hb : 0 < b) (hb4 : b ≤ 4) (hds : ∀ i, ds i < 10)
    (hq1 : q1 = q + 3 * b) (hq2 : q2 = q1 + 61 * b) (hq3 : q3 = q2 + 3 * b)
    (hB : Bits w p gw R) (hT : Tab w) (hRd : Reader w 48 56 r u gb gc) (hs : Whole w gs 3 (nats [q, q1])) (hgs : gs ≠ gc) (hgs2 : gs ≠ gb) (hgc0 : gc ≠ 0) (hgb0 : gb ≠ 0) (hu0' : u ≠ 0)
    (hdl : ∀ x, x < 4 → RunsAt R (offs q1 b x) false (wid b (ds x))) (hmid : RunsAt R (q1 + 28 * b) false [b, b, b, b, b]) (hdr : ∀ x, x < 4 → RunsAt R (offs (q1 + 33 * b) b x) true (wid b (ds (4 + x))))
    (hend : RunsAt R q2 true [b, b, b]) (hquiet : q3 + 3 * b < R.length) (hsize : R.length ≤ 1500) (hlight : ∀ i, q3 ≤ i → R.getD i false = false) (hck : ds 7 = chd ds 7) :
    Calls Tryz.prog 41 #[.pointer (some ⟨u, 0, none⟩), .int .i64 0, .pointer (some ⟨p, 0, none⟩), .slice (some ⟨gs, 0, none⟩) 2 2, .map none] w fun e w' => ∃ pr gp mp f, e = .returned (.tuple #[.pointer (some ⟨pr, 0, none⟩), .nilIface]) ∧ Res w' pr (textOf ds 8) gp f mp ∧ Kept [gc, gb, u] w w' := by
  obtain ⟨od, ext, hu⟩ := hRd.own
  have hu0 : w.cell? ⟨u, 0, none⟩ = some (.iface 48 (.pointer (some ⟨r, 0, none⟩))) := hu.cell 0
  have hu2 : w.cell? ⟨u, 2, none⟩ = some (.slice (some ⟨gb, 0, none⟩) 13 13) := hu.cell 2
  have hne1 : u ≠ gc := hu.ne hRd.cnt (by decide)
  have hne2 : u ≠ gb := hu.ne hRd.buf (by decide)
  have hne3 : p ≠ gc := hB.head.ne hRd.cnt (by decide)
  have hne4 : p ≠ gb := hB.head.ne hRd.buf (by decide)
  have hne5 : p ≠ u := hB.head.ne hu (by decide)
  have hne6 : gw ≠ gc := hB.words.ne hRd.cnt (by decide)
  have hne7 : gw ≠ gb := hB.words.ne hRd.buf (by decide)
  have hne8 : gw ≠ u := hB.words.ne hu (by decide)
  have hne9 : gs ≠ u := hs.ne hu (by decide)
  have hwp := hB.head.lt
  have hul := hu.lt
  have lk9 : ∀ w : World, (Instr.lookup 73 (.map none) (.int .i64 9) true).run Tryz.prog w = .ok (.tuple #[.nilIface, .bool false]) w := fun w => by kernel_rfl
  have lk10 : ∀ w : World, (Instr.lookup 73 (.map none) (.int .i64 10) true).run Tryz.prog w = .ok (.tuple #[.nilIface, .bool false]) w := fun w => by kernel_rfl
  have nf : ∀ w : World, (binOp .neq 116 .nilFunc .nilFunc).run Tryz.prog w = .ok (.bool false) w := fun w => by kernel_rfl
  have mc1 := fun x y z W => mid8_call ⟨r, 0, none⟩ x y z W
  have mc2 := fun x y W => end8_call ⟨r, 0, none⟩ x y W
  have mc3 := fun W => check8_meth ⟨r, 0, none⟩ W
  have mc4 := fun W => fmt8_meth ⟨r, 0, none⟩ W
  have H := Lib.hid (And.intro hB (And.intro hT (And.intro hRd (And.intro hs (And.intro hdl (And.intro hmid (And.intro hdr (And.intro hend (And.intro hlight hck)))))))))
  have HQ := Lib.hid (And.intro hq1 (And.intro hq2 hq3))
  have HU := Lib.hid hu
  have i1 : q2 ≤ q3 := by omega
  have i2 : q3 + q3 < R.length + q2 := by omega
  have i3 : q ≤ q1 := by omega
  have i4 : q1 ≤ q2 := by omega
  clear hB hT hRd hs hdl hmid hdr hend hlight hck hu hq1 hq2 hq3
  go_enter Tryz.func41, Tryz.ntmps41
  go_wp2_with fail
  obtain ⟨hB, hT, hRd, hs, hdl, hmid, hdr, hend, hlight, hck⟩ := H.out
  refine (mid8_any p gw r gc gb gs q1 b q (.pointer (some ⟨u, 0, none⟩)) ds R (nats (List.replicate 4 0)) w hb hb4 hds hB hT hRd.outer hRd.cnt rfl hs hgs hgc0 hgb0 (own_empty ds hRd.buf) hdl hmid hdr).mono ?_
  rintro e w1 ⟨rfl, hO1, hK1⟩
  rw [← HQ.out.2.1]
  have hu1 := HU.out.kept hK1 (by simp; omega)
  have hu01 : w1.cell? ⟨u, 0, none⟩ = some (.iface 48 (.pointer (some ⟨r, 0, none⟩))) := hu1.cell 0
  have HB1 := Lib.hid (hB.kept hK1 (by simp; omega) (by simp; omega))
  have HT1 := Lib.hid (tab_kept hT hK1 (by omega) (by simp; omega))
  have HU1 := Lib.hid hu1
  have HO1 := Lib.hid hO1
  have HK1 := Lib.hid (hK1)
  clear hB hT hRd hs hdl hmid hdr hend hlight hck hu1 hO1 hK1 hu0 hu2
  go_wp2_with fail
  refine (end8_any _ p gw q2 b R w1 hb hb4 HB1.out HT1.out H.out.2.2.2.2.2.2.2.1).mono ?_
  rintro e w2 ⟨gf, rfl, hF, hFz, hL2⟩
  rw [← HQ.out.2.2] at hF
  have hf0 : w2.cell? ⟨gf, 0, none⟩ = some (.int .i64 (q2 : Nat)) := hF.cell 0
  have hf1 : w2.cell? ⟨gf, 1, none⟩ = some (.int .i64 (q3 : Nat)) := hF.cell 1
  have hgf := HK1.out.size
  have hu02 : w2.cell? ⟨u, 0, none⟩ = some (.iface 48 (.pointer (some ⟨r, 0, none⟩))) := (HU1.out.left hL2 (by simp)).cell 0
  have HB2 := Lib.hid (HB1.out.left hL2 (by simp) (by simp))
  have HU2 := Lib.hid (HU1.out.left hL2 (by simp))
  have HO2 := Lib.hid (own_left HO1.out hL2 (by simp))
  have HK2 := Lib.hid (HK1.out.none hL2)
  have HF := Lib.hid hF
  clear hF hL2 hu01
  go_wp2_with fail
  refine (getSize_any p gw R w2 HB2.out).mono ?_
  rintro e w' ⟨rfl, rfl⟩
  go_wp2_with fail
  rw [show ((q3 : Int) + ((q3 : Int) - (q2 : Int))) = ((q3 + (q3 - q2) : Nat) : Int) by omega]
  refine (isRange_light p gw q3 (q3 + (q3 - q2)) R w2 HB2.out (by have := HQ.out.2.2; omega) (by omega) (fun i h _ => H.out.2.2.2.2.2.2.2.2.1 i h)).mono ?_
  rintro e w' ⟨rfl, rfl⟩
  have hu22 : w2.cell? ⟨u, 2, none⟩ = some (.slice (some ⟨gb, 0, none⟩) 13 13) := HU2.out.cell 2
  have hf22 := HU2.out.frozen 2
  have hL3 : Left' (some u) w2 (w2.setCell ⟨u, 2, none⟩ (.slice (some ⟨gb, 0, none⟩) 8 13)) := (Left'.refl w2 (some u)).setCell (.inl rfl) _
  have hO3 := own_left HO2.out hL3 (by simpa using hne2)
  have htx := run_text gb 8 13 ds _ hO3
  have hU3 := HU2.out.set 2 (.slice (some ⟨gb, 0, none⟩) 8 13)
  have hu03 : (w2.setCell ⟨u, 2, none⟩ (.slice (some ⟨gb, 0, none⟩) 8 13)).cell? ⟨u, 0, none⟩ = some (.iface 48 (.pointer (some ⟨r, 0, none⟩))) := hU3.cell 0
  have HB3 := Lib.hid (HB2.out.left hL3 (by simp; omega) (by simp; omega))
  have HK3 := Lib.hid ((HK2.out.more (S' := [gc, gb, u]) (by intro g hg; simp at hg ⊢; omega)).one hL3 (.inl (by simp)))
  have hF3 := HF.out.left hL3 (by simp; omega)
  have hs3 : Whole (w2.setCell ⟨u, 2, none⟩ (.slice (some ⟨gb, 0, none⟩) 8 13)) gs 3 (nats [q, q1]) := H.out.2.2.2.1.kept HK3.out (by simp; omega)
  have hf03 : (w2.setCell ⟨u, 2, none⟩ (.slice (some ⟨gb, 0, none⟩) 8 13)).cell? ⟨gf, 0, none⟩ = some (.int .i64 (q2 : Nat)) := hF3.cell 0
  have hf13 : (w2.setCell ⟨u, 2, none⟩ (.slice (some ⟨gb, 0, none⟩) 8 13)).cell? ⟨gf, 1, none⟩ = some (.int .i64 (q3 : Nat)) := hF3.cell 1
  have hs03 : (w2.setCell ⟨u, 2, none⟩ (.slice (some ⟨gb, 0, none⟩) 8 13)).cell? ⟨gs, 0, none⟩ = some (.int .i64 (q : Nat)) := hs3.cell 0
  have hs13 : (w2.setCell ⟨u, 2, none⟩ (.slice (some ⟨gb, 0, none⟩) 8 13)).cell? ⟨gs, 1, none⟩ = some (.int .i64 (q1 : Nat)) := hs3.cell 1
  have hu33 : (w2.setCell ⟨u, 2, none⟩ (.slice (some ⟨gb, 0, none⟩) 8 13)).cell? ⟨u, 3, none⟩ = some (.pointer (some ext)) := hU3.cell 3
  have hsay := textOf_says ds 8 hds
  have hsz : 8 ≤ (textOf ds 8).size := by rw [hsay.size]; omega
  have hsz2 : (textOf ds 8).size ≤ 8 := by rw [hsay.size]; omega
  have HS := Lib.hid hsay
  clear hL3 hO3 hU3 hF3 hs3 hsay HK2 HU2 HO2 HU1 HO1 HK1 HF
  clear hf0 hf1 hu02
  go_wp2_with fail
  refine (check8_any _ (textOf ds 8) 7 ds _ HS.out (by omega) (by omega) H.out.2.2.2.2.2.2.2.2.2).mono ?_
  rintro e w' ⟨rfl, rfl⟩
  go_wp2
  clear htx hu22 hf22 hsz hsz2
  generalize w2.setCell ⟨u, 2, none⟩ (.slice (some ⟨gb, 0, none⟩) 8 13) = w3 at *
  obtain ⟨r1, hr1⟩ := half_some (q1 + q) (by omega)
  obtain ⟨r2, hr2⟩ := half_some (q3 + q2) (by omega)
  rw [Int.natCast_add] at hr1 hr2
  have F1 := fun W => run_float_arith (P := Tryz.prog) W .quo 122 .f64 _ _ r1 hr1
  have F2 := fun W => run_float_arith (P := Tryz.prog) W .quo 122 .f64 _ _ r2 hr2
  have a1 : IntKind.i64.wrap ((q1 : Int) + (q : Int)) = (q1 : Int) + (q : Int) := by rw [IntKind.wrap_i64]; omega
  have a2 : IntKind.i64.wrap ((q3 : Int) + (q2 : Int)) = (q3 : Int) + (q2 : Int) := by rw [IntKind.wrap_i64]; omega
  clear hr1 hr2
  go_quiet (fail)
  go_wp2
  go_quiet (fail)
  clear F1 F2 a1 a2
  go_wp2_with fail
  refine (fmt8_any _ _).mono ?_
  rintro e w' ⟨rfl, rfl⟩
  go_wp2_with fail
  refine (point_any _ _ _).mono ?_
  rintro e w' ⟨rfl, rfl⟩
  go_wp2_with fail
  refine (point_any _ _ _).mono ?_
  rintro e w' ⟨rfl, rfl⟩
  go_wp2_with fail
  generalize hw4 : World.alloc _ _ = w4
  have hL4 : Left' none w3 w4 := by rw [← hw4]; exact ((Left'.refl w3 none).drewN _).alloc _
  have HL4 := Lib.hid hL4
  clear hw4 hL4
  refine (result_any (textOf ds 8) w3.heap.size 6 w4).mono ?_
  rintro e w5 ⟨rfl, hw5⟩
  have hR5 : Res w5 w4.heap.size (textOf ds 8) w3.heap.size 6 (.map none) := by rw [hw5]; exact Whole.new _ _ _
  have hL5 : Left' none w3 w5 := by rw [hw5]; exact HL4.out.alloc _
  clear hw5
  have hpr : w3.heap.size ≤ w4.heap.size := HL4.out.size
  have hw3s : w.heap.size ≤ w3.heap.size := HK3.out.size
  generalize w4.heap.size = pr at *
  generalize w3.heap.size = gp at *
  have hu35 : w5.cell? ⟨u, 3, none⟩ = some (.pointer (some ext)) := by rw [hL5.cell (p := ⟨u, 3, none⟩) (by have := HK3.out.size; simp; omega) (by simp)]; exact hu33
  have hgf3 := HK3.out.size
  have hf15 : w5.cell? ⟨gf, 1, none⟩ = some (.int .i64 (q3 : Nat)) := by rw [hL5.cell (p := ⟨gf, 1, none⟩) (block_lt_of_cell hf13) (by simp)]; exact hf13
  have HB5 := Lib.hid (HB3.out.left hL5 (by simp) (by simp))
  have HK5 := Lib.hid (HK3.out.none hL5)
  have HR5 := Lib.hid hR5
  clear hL5 hR5 HL4 hf03 hf13 hs03 hs13 hu03 hu33 HB3 HK3
  go_wp2_with fail
  have HB5d := Lib.hid (HB5.out.drew')
  go_region_with (go_at_call 66; refine (ext_any _ p gw q3 0 R _ HB5d.out (by omega) H.out.2.2.2.2.2.2.2.2.1).mono ?_; rintro e w6 ⟨rfl, hL6⟩)
  all_goals
    have hL6' := hL6.ofDrew
    have HR6 := Lib.hid (HR5.out.left hL6' (by simp))
    have HK6 := Lib.hid (HK5.out.none hL6')
    have hpr6 : w.heap.size ≤ pr := by omega
    clear hL6 hL6' HB5 HB5d HR5 HK5 hu35 hf15
    have ta : ∀ (v : Value) (w : World), (Instr.typeAssert (.iface 114 v) 35 145 true).run Tryz.prog w = .ok (.tuple #[.iface 114 v, .bool true]) w := fun v w => by kernel_rfl
    have mi : ∀ (x : Value) (w : World), (Instr.makeInterface 9 x).run Tryz.prog w = .ok (.iface 9 x) w := fun x w => run_makeInterface w 9 x (by kernel_rfl)
    go_wp2_with fail
    refine (itoa_any 4 w6 (by omega)).mono ?_
    rintro e w' ⟨rfl, rfl⟩
    go_wp2_with fail
    refine (put_first pr gp (textOf ds 8) 6 11 9 _ w6 HR6.out (by omega)).mono ?_
    rintro e w7 ⟨rfl, b', D, hR7, hM7, hb7, hL7⟩
    have HF := Lib.hid (And.intro hR7 (HK6.out.one hL7 (.inr hpr6)))
    clear hR7 hM7 hb7 hL7
    go_wp2
    go_ret2
    exact ⟨pr, gp, _, _, rfl, HF.out.1, HF.out.2⟩
end Go.Proofs.YtojngchcghabiaaGreatDoor
