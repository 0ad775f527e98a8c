/- The listed variables: the door leaves them as the row says; the table that the walks read. -/
import Derived.Test.YtojngchcghabiaaGreatDoorBytes
import Derived.Test.YtojngchcghabiaaGreatDoorRows
import Derived.ProofKit
import Derived.LaidMore
import Derived.OpenShut
import Derived.Lib.LaidTab
import Derived.Laws.IdiomArrays
import Derived.Stop.Joined
namespace Go.Proofs.YtojngchcghabiaaGreatDoor
open Go.ChangeShapes Go.WideShapes Go.ChangeAt Go.RowKit

theorem ownKnobs : ownKnob Tryz.prog.godebug = none := by kernel_rfl
theorem cells22 : Tryz.prog.cellsOf 22 = 3 := by kernel_rfl
theorem cells5 : Tryz.prog.cellsOf 5 = 1 := by kernel_rfl
theorem gTab : Tryz.prog.globalNamed "math/bits.deBruijn32tab" = some 0 := by kernel_rfl

theorem list3 {α : Type} (l : List α) (h : (⟨l⟩ : Array α).size = 3) : ∃ a b c, l = [a, b, c] := by
  match l, h with
  | [a, b, c], _ => exact ⟨a, b, c, rfl⟩

theorem byte_of {x : Int} (h : (Lit.int .u8 x).wf = true) : ∃ n : Nat, n < 256 ∧ x = (n : Int) := by
  have h' : 0 ≤ x ∧ x ≤ 255 := by simpa [Lit.wf, IntKind.min, IntKind.max, IntKind.bits, IntKind.signed] using h
  exact ⟨x.toNat, by omega, by omega⟩

theorem door_met (os : Os) (args : Array Value) : laidMetH Tryz.prog Rows.fnODEan8BackRow.laid ((World.doorLaid Tryz.prog 5000 os).forCall (fun _ _ => 0) ⟨#[], args, []⟩).memory :=
  laidMetH_of_parts3 (fuel := 8) (laidMet_of_run' 8 (by kernel_rfl) (by kernel_rfl)) (by kernel_rfl) (by kernel_rfl)

theorem tabType : (Tryz.prog.globals[0]?).map (·.type) = some 195 := by kernel_rfl
theorem underTab : Tryz.prog.underlying 195 = some (.array 32 5) := by kernel_rfl
theorem cellsTab : Tryz.prog.cellsOf 195 = 32 := by kernel_rfl

/-- What the condition gives the walks: the table of deBruijn's numbers. -/
theorem tab_of_laid {W : World} (h : laidMetH Tryz.prog Rows.fnODEan8BackRow.laid W) : Tab W := by
  rw [MakeChecks.laidMetH_plain _ _ _ (by kernel_rfl)] at h
  have ht := Lib.tabIs_of_head (k := .u8) (zs := Lib.deBruijn32tab.map Int.ofNat) gTab tabType underTab Tryz.underlying5 cells5 cellsTab h
  intro j hj
  have := ht.cell gTab j hj
  rw [this]
  have : ∀ j : Fin 32, (Lib.deBruijn32tab.map Int.ofNat).getD j 0 = ((Lib.deBruijn32tab.getD j 0 : Nat) : Int) := by decide
  rw [this ⟨j, hj⟩]
end Go.Proofs.YtojngchcghabiaaGreatDoor
