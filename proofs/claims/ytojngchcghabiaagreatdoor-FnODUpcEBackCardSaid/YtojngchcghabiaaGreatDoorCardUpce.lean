/- FnODUpcEBack: whatever the input, the call returns true and the input reads as it did: the tied card. Its listed variables hold what the program's text lays in them (given tie). -/
import Derived.Test.YtojngchcghabiaaGreatDoorProofUpce
import Derived.Test.YtojngchcghabiaaGreatDoorCards
import Derived.Test.YtojngchcghabiaaGreatDoorTie
import Derived.SevenTiedAt
namespace Go.Proofs.YtojngchcghabiaaGreatDoor
open Go

theorem fnODUpcEBack_card : Rows.FnODUpcEBackCardSaid :=
  Claim7.holds_tied_plain_at .later [] [.data, .data, .data, .sentinel, .sentinel] true (true, "91593dcc7a2d82558c854aeb1cc9f993d098a7e9a476a684b3a6db17262cfcab") true
    fnODUpcEBack_row (fun _ h => by cases h) (by kernel_rfl) (fun _ h => by cases h) fnODUpcEBack_row_tie rfl ⟨rfl, rfl⟩ (by kernel_rfl) rfl
    (fun f fn hf hfn => by
      obtain rfl : f = 4 := Option.some.inj ((show Tryz.prog.funcNamed "given.example/pub-quietlane/laws.FnODUpcEBack" = some 4 by kernel_rfl).symm.trans hf) |>.symm
      obtain rfl : fn = Tryz.f4 := (Option.some.inj (Tryz.func4.symm.trans hfn)).symm
      exact ⟨by kernel_rfl, fun j t ht => by
        rw [Tryz.params4] at ht
        have h3 : t = 9 ∨ t = 22 := by
          rcases j with _ | _ | j
          · exact .inl (by simpa using ht.symm)
          · exact .inr (by simpa using ht.symm)
          · simp at ht
        rcases h3 with rfl | rfl
        · exact (show Tryz.prog.wantsStandIn 9 = false by kernel_rfl)
        · exact (show Tryz.prog.wantsStandIn 22 = false by kernel_rfl)⟩)
    (by kernel_rfl)
#print axioms fnODUpcEBack_card
end Go.Proofs.YtojngchcghabiaaGreatDoor
