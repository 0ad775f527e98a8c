/-
  DERIVED. GIVEN WITH THE SEED: THE CARDS: each row of YtojngchcghabiaaGreatDoorRows.lean that lists a variable, with what it lists TIED to the program's text (the seventh form; the later family's looks); each row that meets fmt, with fmt's text TOLD by the authors' own Lean function (tested against real Go, not proved from fmt's source: count such statements apart). THE CARD IS WHAT COUNTS. Prove the row's statement (the work); the ties are given (YtojngchcghabiaaGreatDoorTie.lean); close each card by the builder's one call (the guide's Derived/Test/ToyasCard.lean, 'card_holds'). Laid BY PROGRAM, IN A SANDBOX (cutbox-door.mjs). By AI agents, Wed Nov 11 2026. No macro, syntax, notation, axiom, sorry.
-/
import Derived.Test.YtojngchcghabiaaGreatDoorRows
import GoSem.ClaimSeven
namespace Go.Proofs.YtojngchcghabiaaGreatDoor
namespace Rows

/-- THE TIED CARD OF 'laws.FnODEan8Back'. -/
def fnODEan8BackCard : Claim7 := { stood := { row := fnODEan8BackRow, standIns := [], harness := (true, "91593dcc7a2d82558c854aeb1cc9f993d098a7e9a476a684b3a6db17262cfcab"), looks := true }, kinds := [], alts := [], laidByText := true, laidKinds := [.data, .data, .data, .sentinel, .sentinel], laidTests := true, laidLooks := .later }
def FnODEan8BackCardSaid : Prop := Claim7.holds Tryz.pinned (.plain (OpenSpec.ofChange fnODEan8BackSpec)) fnODEan8BackCard

/-- THE TIED CARD OF 'laws.FnODUpcEBack'. -/
def fnODUpcEBackCard : Claim7 := { stood := { row := fnODUpcEBackRow, standIns := [], harness := (true, "91593dcc7a2d82558c854aeb1cc9f993d098a7e9a476a684b3a6db17262cfcab"), looks := true }, kinds := [], alts := [], laidByText := true, laidKinds := [.data, .data, .data, .sentinel, .sentinel], laidTests := true, laidLooks := .later }
def FnODUpcEBackCardSaid : Prop := Claim7.holds Tryz.pinned (.plain (OpenSpec.ofChange fnODUpcEBackSpec)) fnODUpcEBackCard

/-- THE TIED CARD OF 'laws.FnODEan13Back'. -/
def fnODEan13BackCard : Claim7 := { stood := { row := fnODEan13BackRow, standIns := [], harness := (true, "91593dcc7a2d82558c854aeb1cc9f993d098a7e9a476a684b3a6db17262cfcab"), looks := true }, kinds := [], alts := [], laidByText := true, laidKinds := [.data, .data, .data, .sentinel, .sentinel], laidTests := true, laidLooks := .later }
def FnODEan13BackCardSaid : Prop := Claim7.holds Tryz.pinned (.plain (OpenSpec.ofChange fnODEan13BackSpec)) fnODEan13BackCard

/-- THE SECOND FORM's CARD OF 'laws.FnODEan8Back'. -/
def fnODEan8BackUptoCard : Claim7 := { stood := { row := fnODEan8BackUptoRow, standIns := [], harness := (true, "91593dcc7a2d82558c854aeb1cc9f993d098a7e9a476a684b3a6db17262cfcab"), looks := true }, kinds := [], alts := [], laidByText := true, laidKinds := [.data, .data, .data, .sentinel, .sentinel], laidTests := true, laidLooks := .later }
def FnODEan8BackUptoCardSaid : Prop := Claim7.holds Tryz.pinned (.plain (OpenSpec.upto fnODEan8BackSpec)) fnODEan8BackUptoCard

/-- THE SECOND FORM's CARD OF 'laws.FnODUpcEBack'. -/
def fnODUpcEBackUptoCard : Claim7 := { stood := { row := fnODUpcEBackUptoRow, standIns := [], harness := (true, "91593dcc7a2d82558c854aeb1cc9f993d098a7e9a476a684b3a6db17262cfcab"), looks := true }, kinds := [], alts := [], laidByText := true, laidKinds := [.data, .data, .data, .sentinel, .sentinel], laidTests := true, laidLooks := .later }
def FnODUpcEBackUptoCardSaid : Prop := Claim7.holds Tryz.pinned (.plain (OpenSpec.upto fnODUpcEBackSpec)) fnODUpcEBackUptoCard

/-- THE SECOND FORM's CARD OF 'laws.FnODEan13Back'. -/
def fnODEan13BackUptoCard : Claim7 := { stood := { row := fnODEan13BackUptoRow, standIns := [], harness := (true, "91593dcc7a2d82558c854aeb1cc9f993d098a7e9a476a684b3a6db17262cfcab"), looks := true }, kinds := [], alts := [], laidByText := true, laidKinds := [.data, .data, .data, .sentinel, .sentinel], laidTests := true, laidLooks := .later }
def FnODEan13BackUptoCardSaid : Prop := Claim7.holds Tryz.pinned (.plain (OpenSpec.upto fnODEan13BackSpec)) fnODEan13BackUptoCard
end Rows
end Go.Proofs.YtojngchcghabiaaGreatDoor
