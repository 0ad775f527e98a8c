/- The walks over the UPC-E doors of the reader. -/
import Derived.Test.YtojngchcghabiaaGreatDoorRowUpce
import Derived.Test.YtojngchcghabiaaGreatDoorReadEight
namespace Go.Proofs.YtojngchcghabiaaGreatDoor
open Go Go.RowKit

/-- A row that is an UPC-E code of modules b wide, from place q on. -/
structure SymE (R : List Bool) (b q : Nat) (ds ps : Nat → Nat) : Prop where
  bpos : 0 < b
  bfour : b ≤ 4
  dig : ∀ i, ds i < 10
  pat : ∀ x, x < 6 → ps x < 20 ∧ ps x % 10 = ds (x + 1)
  two : ds 0 < 2
  msk : mask ps 6 = numN (ds 0) (ds 7)
  lead : 3 * b ≤ q
  dark : ∀ i, i < q → R.getD i false = false
  start : RunsAt R q true [b, b, b]
  left : ∀ x, x < 6 → RunsAt R (offs (q + 3 * b) b x) false (wid b (ps x))
  fin : RunsAt R (q + 3 * b + 42 * b) false [b, b, b, b, b, b]
  quiet : q + 3 * b + 42 * b + 6 * b + 6 * b < R.length
  small : R.length ≤ 1500
  light : ∀ i, q + 3 * b + 42 * b + 6 * b ≤ i → R.getD i false = false
  check : ds 7 = chd (wd ds) 11

set_option maxHeartbeats 1000000 in
/-- DecodeRow of the UPC-E reader. -/
theorem decodeE_any (p gw r u gb gc q b : Nat) (ds ps : Nat → Nat) (R : List Bool) (w : World) (hS : SymE R b q ds ps) (hB : Bits w p gw R) (hT : Tab w) (hRd : Reader w 60 61 r u gb gc) (hgc0 : gc ≠ 0) (hgb0 : gb ≠ 0) (hu0 : u ≠ 0) :
    Calls Tryz.prog 30 #[.pointer (some ⟨u, 0, none⟩), .int .i64 0, .pointer (some ⟨p, 0, none⟩), .map none] w fun e w' => Tells (textOf ds 8) w e w' ∧ Kept [gc, gb, u] w w' := by
  obtain ⟨v, hv1, hv2⟩ := ones_pmv b 3 hS.bpos hS.bfour (by omega)
  obtain ⟨od, ext, hu⟩ := hRd.own
  have hul := hu.lt
  have hcl := hRd.cnt.lt
  have hbl := hRd.buf.lt
  have H := Lib.hid (And.intro hS (And.intro hB (And.intro hT (And.intro hRd (And.intro hv1 hv2)))))
  clear hS hB hT hRd hv1 hv2 hu
  go_enter Tryz.func30, Tryz.ntmps30
  go_wp2_with fail
  obtain ⟨hS, hB, hT, hRd, hv1, hv2⟩ := H.out
  refine (findStart_any p gw q v R b w hB hT hS.bpos hS.lead hS.dark hS.start hv1 hv2).mono ?_
  rintro e w1 ⟨gs, rfl, hW, hgs, hL⟩
  have HF := Lib.hid (And.intro hW (And.intro hgs hL))
  clear hS hB hT hRd hv1 hv2 hW hgs hL
  go_wp2_with fail
  obtain ⟨hS, hB, hT, hRd, hv1, hv2⟩ := H.out
  obtain ⟨hW, hgs, hL⟩ := HF.out
  obtain ⟨od, ext, hu⟩ := hRd.own
  refine (rowE_any p gw r u gb gc gs q (q + 3 * b) (q + 3 * b + 42 * b) (q + 3 * b + 42 * b + 6 * b) b ds ps R w1 hS.bpos hS.bfour hS.dig hS.pat hS.two hS.msk rfl rfl rfl (hB.left hL (by simp) (by simp)) (tab_left hT hL (by omega) (by simp))
    ⟨⟨od, ext, hu.left hL (by simp)⟩, hRd.outer.left hL (by simp), hRd.buf.left hL (by simp), hRd.cnt.left hL (by simp)⟩ hW (by omega) (by omega) hgc0 hgb0 hu0 hS.left hS.fin hS.quiet hS.small hS.light hS.check).mono ?_
  rintro e w2 ⟨pr, gp, mp, f, rfl, hR, hK⟩
  have HX := Lib.hid (And.intro hR ((Left'.kept hL).trans hK))
  clear hS hB hT hRd hv1 hv2 hW hgs hL hu hR hK
  go_wp2
  go_ret2
  exact ⟨⟨pr, gp, mp, f, rfl, HX.out.1⟩, HX.out.2⟩

set_option maxHeartbeats 1000000 in
/-- RowUPCE. -/
theorem rowDoorE_any (p gw q b : Nat) (ds ps : Nat → Nat) (R : List Bool) (w : World) (hS : SymE R b q ds ps) (hB : Bits w p gw R) (hT : Tab w) :
    Calls Tryz.prog 24 #[.pointer (some ⟨p, 0, none⟩)] w fun e w' => Tells (textOf ds 8) w e w' ∧ Left' none w w' := by
  have h0 := hB.head.lt
  have H := Lib.hid (And.intro hS (And.intro hB hT))
  have ta : ∀ (v : Value) (w : World), (Instr.typeAssert (.iface 60 v) 50 60 false).run Tryz.prog w = .ok v w := fun v w => by kernel_rfl
  clear hS hB hT
  go_enter Tryz.func24, Tryz.ntmps24
  go_wp2_with fail
  refine (newUpcE_any w).mono ?_
  rintro e w1 ⟨r, u, gb, gc, rfl, hRd, h1, h2, h3, h4, hL⟩
  have hc : w1.cell? ⟨r, 0, none⟩ = some (.pointer (some ⟨u, 0, none⟩)) := hRd.outer.cell 0
  have HF := Lib.hid (And.intro hRd hL)
  clear hRd hL
  go_wp2_with fail
  obtain ⟨hS, hB, hT⟩ := H.out
  obtain ⟨hRd, hL⟩ := HF.out
  refine (decodeE_any p gw r u gb gc q b ds ps R w1 hS (hB.left hL (by simp) (by simp)) (tab_left hT hL (by omega) (by simp)) hRd (by omega) (by omega) (by omega)).mono ?_
  rintro e w2 ⟨⟨pr, gp, mp, f, rfl, hR⟩, hK⟩
  have HX := Lib.hid (And.intro hR ((Left'.kept (S := []) hL).own hK (fun g hg => .inr (by simp at hg; omega))))
  clear hS hB hT hRd hL hR hK
  go_wp2
  go_ret2
  exact ⟨⟨pr, gp, mp, f, rfl, HX.out.1⟩, HX.out.2.left⟩

/-- ODUpcERow over a row of bools. -/
theorem odRowE_any (gr cap q b : Nat) (ds ps : Nat → Nat) (R : List Bool) (w : World) (hS : SymE R b q ds ps) (hR : ∀ i, i < R.length → w.cell? ⟨gr, i, none⟩ = some (.bool (R.getD i false))) (hgr : gr < w.heap.size) (hT : Tab w) :
    Calls Tryz.prog 11 #[.slice (some ⟨gr, 0, none⟩) R.length cap] w fun e w' => e = .returned (.tuple #[.string (textOf ds 8), .bool true]) ∧ Left' none w w' := by
  have H := Lib.hid (And.intro hS (And.intro hR hT))
  clear hS hR hT
  go_enter Tryz.func11, Tryz.ntmps11
  go_wp2_with fail
  refine (array_any gr cap R w H.out.2.1 (by have := H.out.1.small; omega) hgr).mono ?_
  rintro e w1 ⟨p, gw, rfl, hB, hp, hgw, hL⟩
  have HF := Lib.hid (And.intro hB hL)
  clear hB hL
  go_wp2_with fail
  refine (rowDoorE_any p gw q b ds ps R w1 H.out.1 HF.out.1 (tab_left H.out.2.2 HF.out.2 (by omega) (by simp))).mono ?_
  rintro e w2 ⟨⟨pr, gp, mp, f, rfl, hRs⟩, hL2⟩
  have HX := Lib.hid (And.intro hRs (HF.out.2.trans hL2))
  clear hRs hL2
  go_wp2_with fail
  refine (said_any pr gp (textOf ds 8) f mp w2 HX.out.1).mono ?_
  rintro e w' ⟨rfl, rfl⟩
  go_wp2
  go_ret2
  exact ⟨rfl, HX.out.2⟩
end Go.Proofs.YtojngchcghabiaaGreatDoor
