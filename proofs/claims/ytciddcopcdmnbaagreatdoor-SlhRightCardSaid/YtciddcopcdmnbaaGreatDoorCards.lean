/-
  DERIVED. GIVEN WITH THE SEED: THE CARDS: each row of YtciddcopcdmnbaaGreatDoorRows.lean that lists a variable, with what it lists TIED to the program's text (the seventh form; the later family's looks); each row that meets fmt, with fmt's text TOLD by the authors' own Lean function (tested against real Go, not proved from fmt's source: count such statements apart). THE CARD IS WHAT COUNTS. Prove the row's statement (the work); the ties are given (YtciddcopcdmnbaaGreatDoorTie.lean); close each card by the builder's one call (the guide's Derived/Test/ToyasCard.lean, 'card_holds'). Laid BY PROGRAM, IN A SANDBOX (cutbox-door.mjs). By AI agents, Wed Nov 11 2026. No macro, syntax, notation, axiom, sorry.
-/
import Derived.Test.YtciddcopcdmnbaaGreatDoorRows
import GoSem.ClaimSeven
namespace Go.Proofs.YtciddcopcdmnbaaGreatDoor
namespace Rows

/-- THE TIED CARD OF 'apostillelaw20.SlhVerifies'. -/
def slhVerifiesCard : Claim7 := { stood := { row := slhVerifiesRow, standIns := [], harness := (true, "1e822253aac46bbbcefbbdaf89fcb24d5f5732a325da1ce9594c20ffadba8ada"), looks := false }, kinds := [], alts := [], laidByText := true, laidKinds := [.data, .data, .data, .data, .data, .data, .data], laidTests := true, laidLooks := .later }
def SlhVerifiesCardSaid : Prop := Claim7.holds Tryz.pinned (.plain (OpenSpec.ofChange slhVerifiesSpec)) slhVerifiesCard

/-- THE TIED CARD OF 'apostillelaw20.SlhMakes'. -/
def slhMakesCard : Claim7 := { stood := { row := slhMakesRow, standIns := [], harness := (true, "1e822253aac46bbbcefbbdaf89fcb24d5f5732a325da1ce9594c20ffadba8ada"), looks := false }, kinds := [], alts := [], laidByText := true, laidKinds := [.data, .data, .data, .data, .data, .data, .data], laidTests := true, laidLooks := .later }
def SlhMakesCardSaid : Prop := Claim7.holds Tryz.pinned (.plain (OpenSpec.ofChange slhMakesSpec)) slhMakesCard

/-- THE TIED CARD OF 'apostillelaw20.SlhSigns'. -/
def slhSignsCard : Claim7 := { stood := { row := slhSignsRow, standIns := [], harness := (true, "1e822253aac46bbbcefbbdaf89fcb24d5f5732a325da1ce9594c20ffadba8ada"), looks := false }, kinds := [], alts := [], laidByText := true, laidKinds := [.data, .data, .data, .data, .data, .data, .data], laidTests := true, laidLooks := .later }
def SlhSignsCardSaid : Prop := Claim7.holds Tryz.pinned (.plain (OpenSpec.ofChange slhSignsSpec)) slhSignsCard

/-- THE TIED CARD OF 'apostillelaw20.SlhRight'. -/
def slhRightCard : Claim7 := { stood := { row := slhRightRow, standIns := [], harness := (true, "1e822253aac46bbbcefbbdaf89fcb24d5f5732a325da1ce9594c20ffadba8ada"), looks := false }, kinds := [], alts := [], laidByText := true, laidKinds := [.data, .data, .data, .data, .data, .data, .data], laidTests := true, laidLooks := .later }
def SlhRightCardSaid : Prop := Claim7.holds Tryz.pinned (.plain (OpenSpec.ofChange slhRightSpec)) slhRightCard

/-- THE SECOND FORM's CARD OF 'apostillelaw20.SlhVerifies'. -/
def slhVerifiesUptoCard : Claim7 := { stood := { row := slhVerifiesUptoRow, standIns := [], harness := (true, "1e822253aac46bbbcefbbdaf89fcb24d5f5732a325da1ce9594c20ffadba8ada"), looks := false }, kinds := [], alts := [], laidByText := true, laidKinds := [.data, .data, .data, .data, .data, .data, .data], laidTests := true, laidLooks := .later }
def SlhVerifiesUptoCardSaid : Prop := Claim7.holds Tryz.pinned (.plain (OpenSpec.upto slhVerifiesSpec)) slhVerifiesUptoCard

/-- THE SECOND FORM's CARD OF 'apostillelaw20.SlhMakes'. -/
def slhMakesUptoCard : Claim7 := { stood := { row := slhMakesUptoRow, standIns := [], harness := (true, "1e822253aac46bbbcefbbdaf89fcb24d5f5732a325da1ce9594c20ffadba8ada"), looks := false }, kinds := [], alts := [], laidByText := true, laidKinds := [.data, .data, .data, .data, .data, .data, .data], laidTests := true, laidLooks := .later }
def SlhMakesUptoCardSaid : Prop := Claim7.holds Tryz.pinned (.plain (OpenSpec.upto slhMakesSpec)) slhMakesUptoCard

/-- THE SECOND FORM's CARD OF 'apostillelaw20.SlhSigns'. -/
def slhSignsUptoCard : Claim7 := { stood := { row := slhSignsUptoRow, standIns := [], harness := (true, "1e822253aac46bbbcefbbdaf89fcb24d5f5732a325da1ce9594c20ffadba8ada"), looks := false }, kinds := [], alts := [], laidByText := true, laidKinds := [.data, .data, .data, .data, .data, .data, .data], laidTests := true, laidLooks := .later }
def SlhSignsUptoCardSaid : Prop := Claim7.holds Tryz.pinned (.plain (OpenSpec.upto slhSignsSpec)) slhSignsUptoCard

/-- THE SECOND FORM's CARD OF 'apostillelaw20.SlhRight'. -/
def slhRightUptoCard : Claim7 := { stood := { row := slhRightUptoRow, standIns := [], harness := (true, "1e822253aac46bbbcefbbdaf89fcb24d5f5732a325da1ce9594c20ffadba8ada"), looks := false }, kinds := [], alts := [], laidByText := true, laidKinds := [.data, .data, .data, .data, .data, .data, .data], laidTests := true, laidLooks := .later }
def SlhRightUptoCardSaid : Prop := Claim7.holds Tryz.pinned (.plain (OpenSpec.upto slhRightSpec)) slhRightUptoCard
end Rows
end Go.Proofs.YtciddcopcdmnbaaGreatDoor
