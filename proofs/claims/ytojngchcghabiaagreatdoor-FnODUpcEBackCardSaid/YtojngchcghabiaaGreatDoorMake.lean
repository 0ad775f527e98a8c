/-
  The walks over what makes a reader and its parts.
-/
import Derived.Test.YtojngchcghabiaaGreatDoorItoa
import Derived.Deep.RegionWith
namespace Go.Proofs.YtojngchcghabiaaGreatDoor
open Go Go.RowKit

theorem Left'.ofDrew {w w' : World} {row : Option Nat} (h : Left' row w.drew w') : Left' row w w' := ⟨h.os, h.tape, h.output, h.size, h.block⟩

/-- A call that makes something new behind a pointer. -/
def MakesPtr (w : World) (e : Ending) (w' : World) : Prop := ∃ a, e = .returned (.pointer (some a)) ∧ Left' none w w'

/-- make([]T, 0, n). -/
theorem run_make_cap {P : Program} (t e : TypeId) (z : Value) (by_ : Nat) (ht : P.underlying t = some (.slice e)) (hi : (P.info? e).map (fun i => (i.zero, i.size, i.bytes)) = some (some z, 1, by_)) (h1 : z.cells = #[z])
    (n : Nat) (hb : by_ * n ≤ 281474976710656) (h63 : n ≤ 9223372036854775807) (w : World) :
    (Instr.makeSlice t (.int .i64 0) (.int .i64 (n : Int))).run P w = .ok (.slice (some ⟨w.heap.size, 0, none⟩) 0 n) (w.alloc (.cells (reps n z) e)) := by
  obtain ⟨i, hi0, hz0, hz1, hz2⟩ := info_parts hi
  have h : (i.bytes : Int) * (n : Int) ≤ 281474976710656 := by
    have h : ((i.bytes * n : Nat) : Int) ≤ 281474976710656 := by rw [hz2]; omega
    rwa [Int.natCast_mul] at h
  have hr := run_make (P := P) w t e i z ht hi0 hz0 .i64 .i64 0 n (by omega) (by omega) h (by omega)
  simp only [Int.toNat_natCast, hz1, Nat.mul_one] at hr
  rw [madeCells_one z h1] at hr
  exact hr

theorem ext2_any (w : World) : Calls Tryz.prog 81 #[] w (MakesPtr w) := by
  have m1 := fun W => run_make_one (P := Tryz.prog) 54 3 (.int .i64 0) 8 Tryz.underlying54 info3 rfl .i64 .i64 4 4 4 rfl rfl (by omega) (by omega) W
  have m2 := fun W => run_make_cap (P := Tryz.prog) 66 5 (.int .u8 0) 1 Tryz.underlying66 info5 rfl 2 (by omega) (by omega) W
  have m2' : ∀ W : World, (Instr.makeSlice 66 (.int .i64 0) (.int .i64 2)).run Tryz.prog W = .ok (.slice (some ⟨W.heap.size, 0, none⟩) 0 2) (W.alloc (.cells (reps 2 (.int .u8 0)) 5)) := m2
  clear m2
  go_enter Tryz.func81, Tryz.ntmps81
  go_wp2
  go_region
  all_goals
    go_wp2
    go_ret
    exact ⟨_, rfl, by (repeat first | exact Left'.refl _ _ | refine Left'.drew ?_ | refine Left'.alloc ?_ _)⟩

theorem ext5_any (w : World) : Calls Tryz.prog 82 #[] w (MakesPtr w) := by
  have m1 := fun W => run_make_one (P := Tryz.prog) 54 3 (.int .i64 0) 8 Tryz.underlying54 info3 rfl .i64 .i64 4 4 4 rfl rfl (by omega) (by omega) W
  have m2 := fun W => run_make_cap (P := Tryz.prog) 66 5 (.int .u8 0) 1 Tryz.underlying66 info5 rfl 5 (by omega) (by omega) W
  have m2' : ∀ W : World, (Instr.makeSlice 66 (.int .i64 0) (.int .i64 5)).run Tryz.prog W = .ok (.slice (some ⟨W.heap.size, 0, none⟩) 0 5) (W.alloc (.cells (reps 5 (.int .u8 0)) 5)) := m2
  clear m2
  go_enter Tryz.func82, Tryz.ntmps82
  go_wp2
  go_region
  all_goals
    go_wp2
    go_ret
    exact ⟨_, rfl, by (repeat first | exact Left'.refl _ _ | refine Left'.drew ?_ | refine Left'.alloc ?_ _)⟩

theorem extNew_any (w : World) : Calls Tryz.prog 54 #[] w (MakesPtr w) := by
  go_enter Tryz.func54, Tryz.ntmps54
  go_wp2_with fail
  refine (ext2_any w).mono ?_
  rintro e w1 ⟨a, rfl, hL1⟩
  have H1 := Lib.hid hL1
  clear hL1
  go_wp2_with fail
  refine (ext5_any w1).mono ?_
  rintro e w2 ⟨b, rfl, hL2⟩
  have H2 := Lib.hid (H1.out.trans hL2)
  clear hL2
  go_wp2
  go_ret
  exact ⟨_, rfl, H2.out.alloc _⟩

theorem oneD_any (t : TypeId) (v : Value) (w : World) : Calls Tryz.prog 55 #[.iface t v] w fun e w' => e = .returned (.pointer (some ⟨w.heap.size, 0, none⟩)) ∧ w' = w.alloc (.cells #[.iface t v] 161) := by
  go_enter Tryz.func55, Tryz.ntmps55
  go_wp2
  go_ret
  exact ⟨rfl, rfl⟩

/-- newUPCEANReader: a reader over its own buffer of thirteen bytes. -/
def MakesReader (d : Value) (w : World) (e : Ending) (w' : World) : Prop :=
  ∃ u od gb ext, e = .returned (.pointer (some ⟨u, 0, none⟩)) ∧ Whole w' u 106 [d, .pointer (some od), .slice (some ⟨gb, 0, none⟩) 13 13, .pointer (some ext)] ∧ Whole w' gb 5 (List.replicate 13 (.int .u8 0)) ∧ w.heap.size ≤ u ∧ w.heap.size ≤ gb ∧ Left' none w w'

set_option maxHeartbeats 2000000 in
theorem newReader_any (t : TypeId) (v : Value) (w : World) : Calls Tryz.prog 38 #[.iface t v] w (MakesReader (.iface t v) w) := by
  have m1 := fun W => run_make_one (P := Tryz.prog) 66 5 (.int .u8 0) 1 Tryz.underlying66 info5 rfl .i64 .i64 13 13 13 rfl rfl (by omega) (by omega) W
  go_enter Tryz.func38, Tryz.ntmps38
  go_wp2
  go_region_with (go_at_call 54; refine (extNew_any _).mono ?_; rintro e w1 ⟨ext, rfl, hL1⟩)
  · have hA : Left' none w (w.alloc (.cells (reps 13 (.int .u8 0)) 5)) := (Left'.refl w none).alloc _
    have hb := Whole.reps w 5 13 (.int .u8 0)
    have hL1' := hL1.ofDrew
    have H : ∃ (W : World) (u gb : Nat), W = w1.alloc (.cells #[.iface t v, .pointer none, .slice (some ⟨w.heap.size, 0, none⟩) 13 13, .pointer (some ext)] 106) ∧ u = w1.heap.size ∧ gb = w.heap.size ∧ Hid (Whole W u 106 [.iface t v, .pointer none, .slice (some ⟨gb, 0, none⟩) 13 13, .pointer (some ext)] ∧ Whole W gb 5 (List.replicate 13 (.int .u8 0)) ∧ w.heap.size ≤ u ∧ w.heap.size ≤ gb ∧ Left' none w W) :=
      ⟨_, _, _, rfl, rfl, rfl, Lib.hid ⟨Whole.new _ _ _, (hb.left hL1' (by simp)).alloc _, (hA.trans hL1').size, Nat.le_refl _, (hA.trans hL1').alloc _⟩⟩
    clear hA hb hL1' hL1
    obtain ⟨W, u, gb, hW, hu, hgb, H⟩ := H
    rw [← hgb] at hW
    rw [← hgb, ← hu, ← hW]
    clear hW hu hgb
    go_wp2_with fail
    refine (oneD_any t v _).mono ?_
    rintro e w2 ⟨rfl, rfl⟩
    have hfz := (H.out.1).frozen 1
    have hlt := (H.out.1).lt
    have hcell : W.cell? ⟨u, 1, none⟩ = some (.pointer none) := (H.out.1).cell 1
    go_wp2
    go_ret
    obtain ⟨h1, h2, h3, h4, h5⟩ := H.out
    refine ⟨u, ⟨W.heap.size, 0, none⟩, gb, ext, rfl, ?_, ?_, h3, h4, ?_⟩
    · exact ((h1.set 1 (.pointer (some ⟨W.heap.size, 0, none⟩))).alloc (.cells #[.iface t v] 161))
    · exact ((h2.far (p := ⟨u, 1, none⟩) (h2.ne h1 (by decide)) (.pointer (some ⟨W.heap.size, 0, none⟩))).alloc (.cells #[.iface t v] 161))
    · exact (h5.setCell (.inr h3) _).alloc _
  · have hL1' := hL1.ofDrew
    have hb := Whole.reps w1 5 13 (.int .u8 0)
    have H : ∃ (W : World) (u gb : Nat), W = (w1.alloc (.cells (reps 13 (.int .u8 0)) 5)).alloc (.cells #[.iface t v, .pointer none, .slice (some ⟨w1.heap.size, 0, none⟩) 13 13, .pointer (some ext)] 106) ∧ u = w1.heap.size + 1 ∧ gb = w1.heap.size ∧ Hid (Whole W u 106 [.iface t v, .pointer none, .slice (some ⟨gb, 0, none⟩) 13 13, .pointer (some ext)] ∧ Whole W gb 5 (List.replicate 13 (.int .u8 0)) ∧ w.heap.size ≤ u ∧ w.heap.size ≤ gb ∧ Left' none w W) :=
      ⟨_, _, _, rfl, rfl, rfl, Lib.hid ⟨by
        have := Whole.new (w1.alloc (.cells (reps 13 (.int .u8 0)) 5)) 106 [.iface t v, .pointer none, .slice (some ⟨w1.heap.size, 0, none⟩) 13 13, .pointer (some ext)]
        rw [World.size_alloc] at this
        exact this, hb.alloc _, by have := hL1'.size; omega, hL1'.size, (hL1'.alloc _).alloc _⟩⟩
    clear hb hL1' hL1
    obtain ⟨W, u, gb, hW, hu, hgb, H⟩ := H
    rw [← hgb] at hW
    rw [← hu, ← hgb, ← hW]
    clear hW hu hgb
    go_wp2_with fail
    refine (oneD_any t v _).mono ?_
    rintro e w2 ⟨rfl, rfl⟩
    have hfz := (H.out.1).frozen 1
    have hlt := (H.out.1).lt
    have hcell : W.cell? ⟨u, 1, none⟩ = some (.pointer none) := (H.out.1).cell 1
    go_wp2
    go_ret
    obtain ⟨h1, h2, h3, h4, h5⟩ := H.out
    refine ⟨u, ⟨W.heap.size, 0, none⟩, gb, ext, rfl, ?_, ?_, h3, h4, ?_⟩
    · exact ((h1.set 1 (.pointer (some ⟨W.heap.size, 0, none⟩))).alloc (.cells #[.iface t v] 161))
    · exact ((h2.far (p := ⟨u, 1, none⟩) (h2.ne h1 (by decide)) (.pointer (some ⟨W.heap.size, 0, none⟩))).alloc (.cells #[.iface t v] 161))
    · exact (h5.setCell (.inr h3) _).alloc _
end Go.Proofs.YtojngchcghabiaaGreatDoor
