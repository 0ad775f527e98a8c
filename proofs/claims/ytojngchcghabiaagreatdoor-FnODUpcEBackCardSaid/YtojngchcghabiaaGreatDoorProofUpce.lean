/- FnODUpcEBack: whatever the input, the call returns true and the input reads as it did; the row, proved. -/
import Derived.Test.YtojngchcghabiaaGreatDoorWalkUpce
import Derived.Test.YtojngchcghabiaaGreatDoorLaid
namespace Go.Proofs.YtojngchcghabiaaGreatDoor
open Go.ChangeShapes Go.WideShapes Go.ChangeAt Go.RowKit

set_option maxRecDepth 100000 in
set_option maxHeartbeats 1000000 in
theorem fnODUpcEBack_lifted (os : Os) (started : os.Started) (H : Type) (enc : TypeId × Value → H) :
    ReturnsInHanded {} Tryz.checked os 4 .any (fun w args => (Rows.fnODUpcEBackSpec.pre enc Tryz.prog Tryz.f4 [] false w args ∧ laidMetH Tryz.prog Rows.fnODUpcEBackRow.laid w) ∧ sizedMet enc Tryz.prog Tryz.f4 (OpenSpec.ofChange Rows.fnODUpcEBackSpec) false w args)
      (Rows.fnODUpcEBackSpec.post enc Tryz.prog Tryz.f4 false true false false) := by
  refine returnsInHanded_of_change_and (C := Tryz.checked) (X := fun w _ => laidMetH Tryz.prog Rows.fnODUpcEBackRow.laid w) (fun _ _ _ hh h => h.of_heap hh) ownKnobs started (by kernel_rfl) Tryz.func4
    (ChangeSpec.witness_shaped (enc := enc) (C := Tryz.checked) (os := os) (X := fun w _ => laidMetH Tryz.prog Rows.fnODUpcEBackRow.laid w) false (World.doorLaid Tryz.prog 5000 os) #[.string ⟨#[]⟩, .agg #[.int .u8 0, .int .u8 0, .int .u8 0]] 8 rfl (World.shaped_of_RefB (by kernel_rfl) (by kernel_rfl)) (by kernel_rfl) (by kernel_rfl) (by kernel_rfl) (door_met os _)) ?_
  intro W base args ds gs before hval0 hW _ _ hL _
  have hval : ∀ (j : Nat) t v, Tryz.f4.params[j]? = some t → args[j]? = some v → Value.okWide Tryz.prog W .any base t v := hval0
  have hW' := hW
  obtain ⟨p, q, hA0, hV, rfl, hfz, hnd⟩ := hW
  have hA : DataW.TrodAll enc Tryz.prog W 0 (fun _ => true) true Tryz.f4.params.toList args.toList ds p := hA0
  rw [Tryz.params4] at hA hval
  obtain ⟨v0, v1, d0, d1, q0, q1, rfl, rfl, rfl, h0, h1⟩ := trodAll_two hA
  obtain ⟨rfl, rfl⟩ := trodVars_none hV
  obtain ⟨s, rfl, rfl, rfl, hs⟩ := ChangeMaps.open_string Tryz.underlying9 (hval 0 9 v0 rfl rfl) h0
  obtain ⟨cs, rfl, hsz, _⟩ : ∃ cs, v1 = .agg cs ∧ cs.size = Tryz.prog.cellsOf 22 ∧ Row.okWide Tryz.prog W .any base 22 cs := by
    have := hval 1 22 v1 rfl rfl
    simpa [Value.okWide, Tryz.underlying22] using this
  rw [cells22] at hsz
  obtain ⟨l⟩ := cs
  obtain ⟨c0, c1, c2, rfl⟩ := list3 l hsz
  obtain ⟨fuel, hf⟩ := h1
  obtain ⟨y0, y1, y2, m, hx, hy0, hy1, hy2⟩ := trod_array3 Tryz.underlying22 cells5 hf
  obtain ⟨x0, e0, rfl, w0⟩ := DataW.trod_int Tryz.underlying5 hy0
  obtain ⟨x1, e1, rfl, w1⟩ := DataW.trod_int Tryz.underlying5 hy1
  obtain ⟨x2, e2, rfl, w2⟩ := DataW.trod_int Tryz.underlying5 hy2
  simp at e0 e1 e2
  subst e0 e1 e2
  simp only [Prod.mk.injEq] at hx
  obtain ⟨rfl, rfl⟩ := hx
  clear hA0 hval0
  simp only [List.append_nil] at hW'
  obtain ⟨n0, hn0, rfl⟩ := byte_of w0
  obtain ⟨n1, hn1, rfl⟩ := byte_of w1
  obtain ⟨n2, hn2, rfl⟩ := byte_of w2
  refine (lawE_any s n0 n1 n2 W hn0 hn1 hn2 (tab_of_laid hL)).mono fun e W' ⟨he, hL'⟩ => ?_
  subst he
  have bel := hL'.below
  have rdA : ∀ sp : Nat → Bool, DataW.Trod enc Tryz.prog W' 0 sp true 22 (.agg #[.int .u8 (n0 : Int), .int .u8 (n1 : Int), .int .u8 (n2 : Int)]) (DataW.agg [.lit (.int .u8 (n0 : Int)), .lit (.int .u8 (n1 : Int)), .lit (.int .u8 (n2 : Int))]) [] := fun sp => ⟨2, by simp [DataW.trod, Value.cells, Tryz.underlying22, cells22, cells5, w0, w1, w2, show List.range 3 = [0, 1, 2] from rfl]⟩
  exact ⟨_, rfl, _, _, _, [], [] ++ [], [], hW', trodAll_mk1 (shut_bool Tryz.underlying4 true), trodAll_mk2 (ChangeMaps.shut_string Tryz.underlying9 hs) (rdA _), rfl, bel.frame _, fun h => by cases h⟩

theorem fnODUpcEBack_row : Rows.FnODUpcEBackSaid :=
  OpenClaim.holds_of_wide 4 Tryz.f4 rfl rfl rfl rfl rfl rfl rfl ⟨rfl, rfl, rfl, rfl, rfl⟩ rfl rfl rfl rfl rfl (by kernel_rfl) Tryz.func4 (by kernel_rfl)
    (of_decide_eq_true (by kernel_rfl)) (by unfold Func.isWrapper; first | (rw [if_pos (by decide +kernel)]; kernel_rfl) | (rw [if_neg (by decide +kernel)]; exact ⟨rfl, rfl⟩))
    (fun os started H enc _ => fnODUpcEBack_lifted os started H enc)
end Go.Proofs.YtojngchcghabiaaGreatDoor
