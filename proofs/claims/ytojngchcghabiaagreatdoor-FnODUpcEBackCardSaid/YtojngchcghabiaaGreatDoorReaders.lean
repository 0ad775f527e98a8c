/-
  The walks over the makers of the three readers.
-/
import Derived.Test.YtojngchcghabiaaGreatDoorMake
namespace Go.Proofs.YtojngchcghabiaaGreatDoor
open Go Go.RowKit

/-- A reader over the row decoder at r (of pointer type T, struct type S): its counters at gc, its buffer at gb. -/
structure Reader (w : World) (T S r u gb gc : Nat) : Prop where
  own : ∃ od ext, Whole w u 106 [.iface T (.pointer (some ⟨r, 0, none⟩)), .pointer (some od), .slice (some ⟨gb, 0, none⟩) 13 13, .pointer (some ext)]
  outer : Whole w r S [.pointer (some ⟨u, 0, none⟩), .slice (some ⟨gc, 0, none⟩) 4 4]
  buf : Whole w gb 5 (List.replicate 13 (.int .u8 0))
  cnt : Whole w gc 3 (nats (List.replicate 4 0))

def MakesEan (T S : Nat) (w : World) (e : Ending) (w' : World) : Prop :=
  ∃ r u gb gc, e = .returned (.iface T (.pointer (some ⟨r, 0, none⟩))) ∧ Reader w' T S r u gb gc ∧ w.heap.size ≤ r ∧ w.heap.size ≤ u ∧ w.heap.size ≤ gb ∧ w.heap.size ≤ gc ∧ Left' none w w'

set_option maxHeartbeats 1000000 in
theorem newEan8_any (w : World) : Calls Tryz.prog 29 #[] w (MakesEan 48 56 w) := by
  have hmi : ∀ (x : Value) (w : World), (Instr.makeInterface 48 x).run Tryz.prog w = .ok (.iface 48 x) w := fun x w => run_makeInterface w 48 x (by kernel_rfl)
  have m1 := fun W => run_make_one (P := Tryz.prog) 54 3 (.int .i64 0) 8 Tryz.underlying54 info3 rfl .i64 .i64 4 4 4 rfl rfl (by omega) (by omega) W
  have hb := Whole.reps w 3 4 (.int .i64 0)
  rw [nats_zero] at hb
  have hA : Left' none w (w.alloc (.cells (reps 4 (.int .i64 0)) 3)) := (Left'.refl w none).alloc _
  have hr := Whole.new (w.alloc (.cells (reps 4 (.int .i64 0)) 3)) 56 [.pointer none, .slice (some ⟨w.heap.size, 0, none⟩) 4 4]
  rw [World.size_alloc] at hr
  have H := Lib.hid (And.intro (hb.alloc (.cells #[.pointer none, .slice (some ⟨w.heap.size, 0, none⟩) 4 4] 56)) (And.intro hr (hA.alloc (.cells #[.pointer none, .slice (some ⟨w.heap.size, 0, none⟩) 4 4] 56))))
  clear hb hA hr
  go_enter Tryz.func29, Tryz.ntmps29
  go_wp2_with fail
  refine (newReader_any 48 (.pointer (some ⟨w.heap.size + 1, 0, none⟩)) _).mono ?_
  rintro e w1 ⟨u, od, gb, ext, rfl, h1, h2, h3, h4, hL⟩
  have hr := H.out.2.1.left hL (by simp)
  have hc := H.out.1.left hL (by simp)
  have hcell : w1.cell? ⟨w.heap.size + 1, 0, none⟩ = some (.pointer none) := hr.cell 0
  have hfz := hr.frozen 0
  have hlt := hr.lt
  have HF := Lib.hid (And.intro hr (And.intro hc (And.intro h1 (And.intro h2 (And.intro h3 (And.intro h4 (H.out.2.2.trans hL)))))))
  clear hr hc h1 h2 h3 h4 hL H
  go_wp2
  go_ret
  obtain ⟨hr, hc, h1, h2, h3, h4, hL⟩ := HF.out
  simp only [World.size_alloc] at h3 h4
  refine ⟨w.heap.size + 1, u, gb, w.heap.size, rfl, ⟨⟨od, ext, h1.far (p := ⟨w.heap.size + 1, 0, none⟩) (h1.ne hr (by decide)) _⟩, hr.set 0 _, h2.far (p := ⟨w.heap.size + 1, 0, none⟩) (h2.ne hr (by decide)) _, hc.far (p := ⟨w.heap.size + 1, 0, none⟩) (hc.ne hr (by decide)) _⟩, by omega, by omega, by omega, by omega, hL.setCell (.inr (by simp)) _⟩

set_option maxHeartbeats 1000000 in
theorem newUpcE_any (w : World) : Calls Tryz.prog 34 #[] w (MakesEan 60 61 w) := by
  have hmi : ∀ (x : Value) (w : World), (Instr.makeInterface 60 x).run Tryz.prog w = .ok (.iface 60 x) w := fun x w => run_makeInterface w 60 x (by kernel_rfl)
  have m1 := fun W => run_make_one (P := Tryz.prog) 54 3 (.int .i64 0) 8 Tryz.underlying54 info3 rfl .i64 .i64 4 4 4 rfl rfl (by omega) (by omega) W
  have hb := Whole.reps w 3 4 (.int .i64 0)
  rw [nats_zero] at hb
  have hA : Left' none w (w.alloc (.cells (reps 4 (.int .i64 0)) 3)) := (Left'.refl w none).alloc _
  have hr := Whole.new (w.alloc (.cells (reps 4 (.int .i64 0)) 3)) 61 [.pointer none, .slice (some ⟨w.heap.size, 0, none⟩) 4 4]
  rw [World.size_alloc] at hr
  have H := Lib.hid (And.intro (hb.alloc (.cells #[.pointer none, .slice (some ⟨w.heap.size, 0, none⟩) 4 4] 61)) (And.intro hr (hA.alloc (.cells #[.pointer none, .slice (some ⟨w.heap.size, 0, none⟩) 4 4] 61))))
  clear hb hA hr
  go_enter Tryz.func34, Tryz.ntmps34
  go_wp2_with fail
  refine (newReader_any 60 (.pointer (some ⟨w.heap.size + 1, 0, none⟩)) _).mono ?_
  rintro e w1 ⟨u, od, gb, ext, rfl, h1, h2, h3, h4, hL⟩
  have hr := H.out.2.1.left hL (by simp)
  have hc := H.out.1.left hL (by simp)
  have hcell : w1.cell? ⟨w.heap.size + 1, 0, none⟩ = some (.pointer none) := hr.cell 0
  have hfz := hr.frozen 0
  have hlt := hr.lt
  have HF := Lib.hid (And.intro hr (And.intro hc (And.intro h1 (And.intro h2 (And.intro h3 (And.intro h4 (H.out.2.2.trans hL)))))))
  clear hr hc h1 h2 h3 h4 hL H
  go_wp2
  go_ret
  obtain ⟨hr, hc, h1, h2, h3, h4, hL⟩ := HF.out
  simp only [World.size_alloc] at h3 h4
  refine ⟨w.heap.size + 1, u, gb, w.heap.size, rfl, ⟨⟨od, ext, h1.far (p := ⟨w.heap.size + 1, 0, none⟩) (h1.ne hr (by decide)) _⟩, hr.set 0 _, h2.far (p := ⟨w.heap.size + 1, 0, none⟩) (h2.ne hr (by decide)) _, hc.far (p := ⟨w.heap.size + 1, 0, none⟩) (hc.ne hr (by decide)) _⟩, by omega, by omega, by omega, by omega, hL.setCell (.inr (by simp)) _⟩

set_option maxHeartbeats 1000000 in
theorem newEan13_any (w : World) : Calls Tryz.prog 36 #[] w (MakesEan 63 64 w) := by
  have hmi : ∀ (x : Value) (w : World), (Instr.makeInterface 63 x).run Tryz.prog w = .ok (.iface 63 x) w := fun x w => run_makeInterface w 63 x (by kernel_rfl)
  have m1 := fun W => run_make_one (P := Tryz.prog) 54 3 (.int .i64 0) 8 Tryz.underlying54 info3 rfl .i64 .i64 4 4 4 rfl rfl (by omega) (by omega) W
  have hb := Whole.reps w 3 4 (.int .i64 0)
  rw [nats_zero] at hb
  have hA : Left' none w (w.alloc (.cells (reps 4 (.int .i64 0)) 3)) := (Left'.refl w none).alloc _
  have hr := Whole.new (w.alloc (.cells (reps 4 (.int .i64 0)) 3)) 64 [.pointer none, .slice (some ⟨w.heap.size, 0, none⟩) 4 4]
  rw [World.size_alloc] at hr
  have H := Lib.hid (And.intro (hb.alloc (.cells #[.pointer none, .slice (some ⟨w.heap.size, 0, none⟩) 4 4] 64)) (And.intro hr (hA.alloc (.cells #[.pointer none, .slice (some ⟨w.heap.size, 0, none⟩) 4 4] 64))))
  clear hb hA hr
  go_enter Tryz.func36, Tryz.ntmps36
  go_wp2_with fail
  refine (newReader_any 63 (.pointer (some ⟨w.heap.size + 1, 0, none⟩)) _).mono ?_
  rintro e w1 ⟨u, od, gb, ext, rfl, h1, h2, h3, h4, hL⟩
  have hr := H.out.2.1.left hL (by simp)
  have hc := H.out.1.left hL (by simp)
  have hcell : w1.cell? ⟨w.heap.size + 1, 0, none⟩ = some (.pointer none) := hr.cell 0
  have hfz := hr.frozen 0
  have hlt := hr.lt
  have HF := Lib.hid (And.intro hr (And.intro hc (And.intro h1 (And.intro h2 (And.intro h3 (And.intro h4 (H.out.2.2.trans hL)))))))
  clear hr hc h1 h2 h3 h4 hL H
  go_wp2
  go_ret
  obtain ⟨hr, hc, h1, h2, h3, h4, hL⟩ := HF.out
  simp only [World.size_alloc] at h3 h4
  refine ⟨w.heap.size + 1, u, gb, w.heap.size, rfl, ⟨⟨od, ext, h1.far (p := ⟨w.heap.size + 1, 0, none⟩) (h1.ne hr (by decide)) _⟩, hr.set 0 _, h2.far (p := ⟨w.heap.size + 1, 0, none⟩) (h2.ne hr (by decide)) _, hc.far (p := ⟨w.heap.size + 1, 0, none⟩) (hc.ne hr (by decide)) _⟩, by omega, by omega, by omega, by omega, hL.setCell (.inr (by simp)) _⟩

end Go.Proofs.YtojngchcghabiaaGreatDoor
