/-
  DERIVED. GIVEN WITH THE SEED: THE CARDS: each row of YtmipokjdajiimaaGreatDoorRows.lean that lists a variable, with what it lists TIED to the program's text (the seventh form; the later family's looks); each row that meets fmt, with fmt's text TOLD by the authors' own Lean function (tested against real Go, not proved from fmt's source: count such statements apart). THE CARD IS WHAT COUNTS. Prove the row's statement (the work); the ties are given (YtmipokjdajiimaaGreatDoorTie.lean); close each card by the builder's one call (the guide's Derived/Test/ToyasCard.lean, 'card_holds'). Laid BY PROGRAM, IN A SANDBOX (cutbox-door.mjs). By AI agents, Wed Nov 11 2026. No macro, syntax, notation, axiom, sorry.
-/
import Derived.Test.YtmipokjdajiimaaGreatDoorRows
import GoSem.ClaimSeven
namespace Go.Proofs.YtmipokjdajiimaaGreatDoor
namespace Rows

/-- THE TIED CARD OF 'apostillelaw16.HssSigns'. -/
def hssSignsCard : Claim7 := { stood := { row := hssSignsRow, standIns := [], harness := (true, "1a91769c4e29560ebb0d256ae04051a5bc774d79054ea887e437f920383cb26c"), looks := false }, kinds := [], alts := [], laidByText := true, laidKinds := [.data, .data], laidTests := true, laidLooks := .later }
def HssSignsCardSaid : Prop := Claim7.holds Tryz.pinned (.plain (OpenSpec.ofChange hssSignsSpec)) hssSignsCard

/-- THE TIED CARD OF 'apostillelaw15.LmsGrows'. -/
def lmsGrowsCard : Claim7 := { stood := { row := lmsGrowsRow, standIns := [], harness := (true, "1a91769c4e29560ebb0d256ae04051a5bc774d79054ea887e437f920383cb26c"), looks := false }, kinds := [], alts := [], laidByText := true, laidKinds := [.data, .data], laidTests := true, laidLooks := .later }
def LmsGrowsCardSaid : Prop := Claim7.holds Tryz.pinned (.plain (OpenSpec.ofChange lmsGrowsSpec)) lmsGrowsCard

/-- THE SECOND FORM's CARD OF 'apostillelaw16.HssSigns'. -/
def hssSignsUptoCard : Claim7 := { stood := { row := hssSignsUptoRow, standIns := [], harness := (true, "1a91769c4e29560ebb0d256ae04051a5bc774d79054ea887e437f920383cb26c"), looks := false }, kinds := [], alts := [], laidByText := true, laidKinds := [.data, .data], laidTests := true, laidLooks := .later }
def HssSignsUptoCardSaid : Prop := Claim7.holds Tryz.pinned (.plain (OpenSpec.upto hssSignsSpec)) hssSignsUptoCard

/-- THE SECOND FORM's CARD OF 'apostillelaw15.LmsGrows'. -/
def lmsGrowsUptoCard : Claim7 := { stood := { row := lmsGrowsUptoRow, standIns := [], harness := (true, "1a91769c4e29560ebb0d256ae04051a5bc774d79054ea887e437f920383cb26c"), looks := false }, kinds := [], alts := [], laidByText := true, laidKinds := [.data, .data], laidTests := true, laidLooks := .later }
def LmsGrowsUptoCardSaid : Prop := Claim7.holds Tryz.pinned (.plain (OpenSpec.upto lmsGrowsSpec)) lmsGrowsUptoCard
end Rows
end Go.Proofs.YtmipokjdajiimaaGreatDoor
