/- The writer of UPC-E drawn (functions 33, 23, 10). -/
import Derived.Test.YtojngchcghabiaaGreatDoorOwned
namespace Go.Proofs.YtojngchcghabiaaGreatDoor
open Go Go.RowKit

/-- What the writer draws for a text. -/
def WritesE (s : ByteArray) (R : List Bool) : Prop := ∀ w, Calls Tryz.prog 43 #[.agg #[], .string s, .map none] w (MakesBools R w)

set_option maxHeartbeats 1000000 in
theorem encE_any (s : ByteArray) (R : List Bool) (w : World) (h : WritesE s R) : Calls Tryz.prog 33 #[.agg #[], .string s] w (MakesBools R w) := by
  have H := Lib.hid h
  clear h
  go_enter Tryz.func33, Tryz.ntmps33
  go_wp2_with fail
  generalize hw0 : World.alloc _ _ = w0
  have HL := Lib.hid (show Left' none w w0 by rw [← hw0]; exact (Left'.refl _ _).alloc _)
  clear hw0
  refine (H.out w0).mono ?_
  rintro e w1 ⟨g, rfl, hW, hg, hL⟩
  have HF := Lib.hid (And.intro hW (HL.out.trans hL))
  have hg' : w.heap.size ≤ g := by have := HL.out.size; omega
  clear hW hL hg
  go_wp2
  go_ret2
  exact ⟨g, rfl, HF.out.1, hg', HF.out.2⟩

set_option maxHeartbeats 1000000 in
theorem barsE_any (s : ByteArray) (R : List Bool) (w : World) (h : WritesE s R) : Calls Tryz.prog 23 #[.string s] w (MakesBools R w) := by
  have H := Lib.hid h
  clear h
  go_enter Tryz.func23, Tryz.ntmps23
  go_wp2_with fail
  refine (encE_any s R w H.out).mono ?_
  rintro e w1 ⟨g, rfl, hW, hg, hL⟩
  have HF := Lib.hid (And.intro hW hL)
  clear hW hL
  go_wp2
  go_ret2
  exact ⟨g, rfl, HF.out.1, hg, HF.out.2⟩

set_option maxHeartbeats 1000000 in
/-- ODUpcEBars. -/
theorem odBarsE_any (s : ByteArray) (R : List Bool) (w : World) (h : WritesE s R) (h0 : 0 < R.length) (hR : R.length ≤ 1000) : Calls Tryz.prog 10 #[.string s] w (OwnBools R w) := by
  have H := Lib.hid h
  clear h
  go_enter Tryz.func10, Tryz.ntmps10
  go_wp2_with fail
  refine (barsE_any s R w H.out).mono ?_
  rintro e w1 ⟨g, rfl, hW, hg, hL⟩
  have HL := Lib.hid hL
  have HW := Lib.hid hW
  clear hW hL
  go_wp2_with fail
  refine (drawn_any g R w1 HW.out h0 hR).mono ?_
  rintro e w2 ⟨g2, cap, rfl, hO, hL2⟩
  have hO2 : w2.ownsRow w.heap.size 4 1 (.slice (some ⟨g2, 0, none⟩) R.length cap) R.length (R.map Value.bool) := by
    refine ⟨hO.1, ?_⟩
    rcases hO.2 with h | ⟨g', cap', cur, h1, h2, h3⟩
    · exact .inl h
    · exact .inr ⟨g', cap', cur, h1, Nat.le_trans HL.out.size h2, h3⟩
  have HF := Lib.hid (And.intro hO2 (HL.out.trans hL2))
  clear hO hO2 hL2 HW
  go_wp2
  go_ret2
  exact ⟨g2, cap, rfl, HF.out.1, HF.out.2⟩
end Go.Proofs.YtojngchcghabiaaGreatDoor
