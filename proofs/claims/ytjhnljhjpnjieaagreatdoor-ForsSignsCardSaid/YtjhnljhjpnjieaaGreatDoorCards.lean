/-
  DERIVED. GIVEN WITH THE SEED: THE CARDS: each row of YtjhnljhjpnjieaaGreatDoorRows.lean that lists a variable, with what it lists TIED to the program's text (the seventh form; the later family's looks); each row that meets fmt, with fmt's text TOLD by the authors' own Lean function (tested against real Go, not proved from fmt's source: count such statements apart). THE CARD IS WHAT COUNTS. Prove the row's statement (the work); the ties are given (YtjhnljhjpnjieaaGreatDoorTie.lean); close each card by the builder's one call (the guide's Derived/Test/ToyasCard.lean, 'card_holds'). Laid BY PROGRAM, IN A SANDBOX (cutbox-door.mjs). By AI agents, Wed Nov 11 2026. No macro, syntax, notation, axiom, sorry.
-/
import Derived.Test.YtjhnljhjpnjieaaGreatDoorRows
import GoSem.ClaimSeven
namespace Go.Proofs.YtjhnljhjpnjieaaGreatDoor
namespace Rows

/-- THE TIED CARD OF 'apostillelaw19.ForsGrows'. -/
def forsGrowsCard : Claim7 := { stood := { row := forsGrowsRow, standIns := [], harness := (true, "5154b91c117ce105d7b0a3954e9e0bbf65bc38b557ec9e08c9b5b2bc50f14600"), looks := false }, kinds := [], alts := [], laidByText := true, laidKinds := [.data, .data, .data, .data, .data], laidTests := true, laidLooks := .later }
def ForsGrowsCardSaid : Prop := Claim7.holds Tryz.pinned (.plain (OpenSpec.ofChange forsGrowsSpec)) forsGrowsCard

/-- THE TIED CARD OF 'apostillelaw19.ForsSigns'. -/
def forsSignsCard : Claim7 := { stood := { row := forsSignsRow, standIns := [], harness := (true, "5154b91c117ce105d7b0a3954e9e0bbf65bc38b557ec9e08c9b5b2bc50f14600"), looks := false }, kinds := [], alts := [], laidByText := true, laidKinds := [.data, .data, .data, .data, .data], laidTests := true, laidLooks := .later }
def ForsSignsCardSaid : Prop := Claim7.holds Tryz.pinned (.plain (OpenSpec.ofChange forsSignsSpec)) forsSignsCard

/-- THE TIED CARD OF 'apostillelaw18.XmssGrows'. -/
def xmssGrowsCard : Claim7 := { stood := { row := xmssGrowsRow, standIns := [], harness := (true, "5154b91c117ce105d7b0a3954e9e0bbf65bc38b557ec9e08c9b5b2bc50f14600"), looks := false }, kinds := [], alts := [], laidByText := true, laidKinds := [.data, .data, .data, .data, .data], laidTests := true, laidLooks := .later }
def XmssGrowsCardSaid : Prop := Claim7.holds Tryz.pinned (.plain (OpenSpec.ofChange xmssGrowsSpec)) xmssGrowsCard

/-- THE TIED CARD OF 'apostillelaw18.XmssHypers'. -/
def xmssHypersCard : Claim7 := { stood := { row := xmssHypersRow, standIns := [], harness := (true, "5154b91c117ce105d7b0a3954e9e0bbf65bc38b557ec9e08c9b5b2bc50f14600"), looks := false }, kinds := [], alts := [], laidByText := true, laidKinds := [.data, .data, .data, .data, .data], laidTests := true, laidLooks := .later }
def XmssHypersCardSaid : Prop := Claim7.holds Tryz.pinned (.plain (OpenSpec.ofChange xmssHypersSpec)) xmssHypersCard

/-- THE SECOND FORM's CARD OF 'apostillelaw19.ForsGrows'. -/
def forsGrowsUptoCard : Claim7 := { stood := { row := forsGrowsUptoRow, standIns := [], harness := (true, "5154b91c117ce105d7b0a3954e9e0bbf65bc38b557ec9e08c9b5b2bc50f14600"), looks := false }, kinds := [], alts := [], laidByText := true, laidKinds := [.data, .data, .data, .data, .data], laidTests := true, laidLooks := .later }
def ForsGrowsUptoCardSaid : Prop := Claim7.holds Tryz.pinned (.plain (OpenSpec.upto forsGrowsSpec)) forsGrowsUptoCard

/-- THE SECOND FORM's CARD OF 'apostillelaw19.ForsSigns'. -/
def forsSignsUptoCard : Claim7 := { stood := { row := forsSignsUptoRow, standIns := [], harness := (true, "5154b91c117ce105d7b0a3954e9e0bbf65bc38b557ec9e08c9b5b2bc50f14600"), looks := false }, kinds := [], alts := [], laidByText := true, laidKinds := [.data, .data, .data, .data, .data], laidTests := true, laidLooks := .later }
def ForsSignsUptoCardSaid : Prop := Claim7.holds Tryz.pinned (.plain (OpenSpec.upto forsSignsSpec)) forsSignsUptoCard

/-- THE SECOND FORM's CARD OF 'apostillelaw18.XmssGrows'. -/
def xmssGrowsUptoCard : Claim7 := { stood := { row := xmssGrowsUptoRow, standIns := [], harness := (true, "5154b91c117ce105d7b0a3954e9e0bbf65bc38b557ec9e08c9b5b2bc50f14600"), looks := false }, kinds := [], alts := [], laidByText := true, laidKinds := [.data, .data, .data, .data, .data], laidTests := true, laidLooks := .later }
def XmssGrowsUptoCardSaid : Prop := Claim7.holds Tryz.pinned (.plain (OpenSpec.upto xmssGrowsSpec)) xmssGrowsUptoCard

/-- THE SECOND FORM's CARD OF 'apostillelaw18.XmssHypers'. -/
def xmssHypersUptoCard : Claim7 := { stood := { row := xmssHypersUptoRow, standIns := [], harness := (true, "5154b91c117ce105d7b0a3954e9e0bbf65bc38b557ec9e08c9b5b2bc50f14600"), looks := false }, kinds := [], alts := [], laidByText := true, laidKinds := [.data, .data, .data, .data, .data], laidTests := true, laidLooks := .later }
def XmssHypersUptoCardSaid : Prop := Claim7.holds Tryz.pinned (.plain (OpenSpec.upto xmssHypersSpec)) xmssHypersUptoCard
end Rows
end Go.Proofs.YtjhnljhjpnjieaaGreatDoor
