/-
  DERIVED. GIVEN WITH THE SEED: THE CARDS: each row of YtjhnljhjpnjieaaDoorRows.lean that lists a variable, with what it lists TIED to the program's text (the seventh form; the later family's looks); each row that meets fmt, with fmt's text TOLD by the authors' own Lean function (tested against real Go, not proved from fmt's source: count such statements apart). THE CARD IS WHAT COUNTS. Prove the row's statement (the work); the ties are given (YtjhnljhjpnjieaaDoorTie.lean); close each card by the builder's one call (the guide's Derived/Test/ToyasCard.lean, 'card_holds'). Laid BY PROGRAM, IN A SANDBOX (cutbox-door.mjs). By AI agents, Wed Nov 11 2026. No macro, syntax, notation, axiom, sorry.
-/
import Derived.Test.YtjhnljhjpnjieaaDoorRows
import GoSem.ClaimSeven
namespace Go.Proofs.YtjhnljhjpnjieaaDoor
namespace Rows

/-- THE TIED CARD OF 'apostillelaw09.MacTells'. -/
def macTellsCard : Claim7 := { stood := { row := macTellsRow, standIns := [], harness := (true, "d0402cb894078d5edbd9f61593cb55ea83faee7bbe0ecf6a9ddf87be153d093c"), looks := false }, kinds := [], alts := [], laidByText := true, laidKinds := [.data, .data, .data, .data, .data, .data], laidTests := true, laidLooks := .later }
def MacTellsCardSaid : Prop := Claim7.holds Tryd.pinned (.plain (OpenSpec.ofChange macTellsSpec)) macTellsCard

/-- THE TIED CARD OF 'apostillelaw09.MacGrows'. -/
def macGrowsCard : Claim7 := { stood := { row := macGrowsRow, standIns := [], harness := (true, "d0402cb894078d5edbd9f61593cb55ea83faee7bbe0ecf6a9ddf87be153d093c"), looks := false }, kinds := [], alts := [], laidByText := true, laidKinds := [.data, .data, .data, .data, .data, .data], laidTests := true, laidLooks := .later }
def MacGrowsCardSaid : Prop := Claim7.holds Tryd.pinned (.plain (OpenSpec.ofChange macGrowsSpec)) macGrowsCard

/-- THE TIED CARD OF 'apostillelaw09.MacStarts'. -/
def macStartsCard : Claim7 := { stood := { row := macStartsRow, standIns := [], harness := (true, "d0402cb894078d5edbd9f61593cb55ea83faee7bbe0ecf6a9ddf87be153d093c"), looks := false }, kinds := [], alts := [], laidByText := true, laidKinds := [.data, .data, .data, .data, .data, .data], laidTests := true, laidLooks := .later }
def MacStartsCardSaid : Prop := Claim7.holds Tryd.pinned (.plain (OpenSpec.ofChange macStartsSpec)) macStartsCard

/-- THE TIED CARD OF 'apostillelaw17.WotsTells'. -/
def wotsTellsCard : Claim7 := { stood := { row := wotsTellsRow, standIns := [], harness := (true, "d0402cb894078d5edbd9f61593cb55ea83faee7bbe0ecf6a9ddf87be153d093c"), looks := false }, kinds := [], alts := [], laidByText := true, laidKinds := [.data, .data, .data, .data, .data], laidTests := true, laidLooks := .later }
def WotsTellsCardSaid : Prop := Claim7.holds Tryd.pinned (.plain (OpenSpec.ofChange wotsTellsSpec)) wotsTellsCard

/-- THE TIED CARD OF 'apostillelaw17.WotsRight'. -/
def wotsRightCard : Claim7 := { stood := { row := wotsRightRow, standIns := [], harness := (true, "d0402cb894078d5edbd9f61593cb55ea83faee7bbe0ecf6a9ddf87be153d093c"), looks := false }, kinds := [], alts := [], laidByText := true, laidKinds := [.data, .data, .data, .data, .data], laidTests := true, laidLooks := .later }
def WotsRightCardSaid : Prop := Claim7.holds Tryd.pinned (.plain (OpenSpec.ofChange wotsRightSpec)) wotsRightCard

/-- THE TIED CARD OF 'apostillelaw19.ForsRight'. -/
def forsRightCard : Claim7 := { stood := { row := forsRightRow, standIns := [], harness := (true, "d0402cb894078d5edbd9f61593cb55ea83faee7bbe0ecf6a9ddf87be153d093c"), looks := false }, kinds := [], alts := [], laidByText := true, laidKinds := [.data, .data, .data, .data, .data], laidTests := true, laidLooks := .later }
def ForsRightCardSaid : Prop := Claim7.holds Tryd.pinned (.plain (OpenSpec.ofChange forsRightSpec)) forsRightCard

/-- THE TIED CARD OF 'apostillelaw18.XmssRight'. -/
def xmssRightCard : Claim7 := { stood := { row := xmssRightRow, standIns := [], harness := (true, "d0402cb894078d5edbd9f61593cb55ea83faee7bbe0ecf6a9ddf87be153d093c"), looks := false }, kinds := [], alts := [], laidByText := true, laidKinds := [.data, .data, .data, .data, .data], laidTests := true, laidLooks := .later }
def XmssRightCardSaid : Prop := Claim7.holds Tryd.pinned (.plain (OpenSpec.ofChange xmssRightSpec)) xmssRightCard

/-- THE SECOND FORM's CARD OF 'apostillelaw09.MacTells'. -/
def macTellsUptoCard : Claim7 := { stood := { row := macTellsUptoRow, standIns := [], harness := (true, "d0402cb894078d5edbd9f61593cb55ea83faee7bbe0ecf6a9ddf87be153d093c"), looks := false }, kinds := [], alts := [], laidByText := true, laidKinds := [.data, .data, .data, .data, .data, .data], laidTests := true, laidLooks := .later }
def MacTellsUptoCardSaid : Prop := Claim7.holds Tryd.pinned (.plain (OpenSpec.upto macTellsSpec)) macTellsUptoCard

/-- THE SECOND FORM's CARD OF 'apostillelaw09.MacGrows'. -/
def macGrowsUptoCard : Claim7 := { stood := { row := macGrowsUptoRow, standIns := [], harness := (true, "d0402cb894078d5edbd9f61593cb55ea83faee7bbe0ecf6a9ddf87be153d093c"), looks := false }, kinds := [], alts := [], laidByText := true, laidKinds := [.data, .data, .data, .data, .data, .data], laidTests := true, laidLooks := .later }
def MacGrowsUptoCardSaid : Prop := Claim7.holds Tryd.pinned (.plain (OpenSpec.upto macGrowsSpec)) macGrowsUptoCard

/-- THE SECOND FORM's CARD OF 'apostillelaw09.MacStarts'. -/
def macStartsUptoCard : Claim7 := { stood := { row := macStartsUptoRow, standIns := [], harness := (true, "d0402cb894078d5edbd9f61593cb55ea83faee7bbe0ecf6a9ddf87be153d093c"), looks := false }, kinds := [], alts := [], laidByText := true, laidKinds := [.data, .data, .data, .data, .data, .data], laidTests := true, laidLooks := .later }
def MacStartsUptoCardSaid : Prop := Claim7.holds Tryd.pinned (.plain (OpenSpec.upto macStartsSpec)) macStartsUptoCard

/-- THE SECOND FORM's CARD OF 'apostillelaw17.WotsTells'. -/
def wotsTellsUptoCard : Claim7 := { stood := { row := wotsTellsUptoRow, standIns := [], harness := (true, "d0402cb894078d5edbd9f61593cb55ea83faee7bbe0ecf6a9ddf87be153d093c"), looks := false }, kinds := [], alts := [], laidByText := true, laidKinds := [.data, .data, .data, .data, .data], laidTests := true, laidLooks := .later }
def WotsTellsUptoCardSaid : Prop := Claim7.holds Tryd.pinned (.plain (OpenSpec.upto wotsTellsSpec)) wotsTellsUptoCard

/-- THE SECOND FORM's CARD OF 'apostillelaw17.WotsRight'. -/
def wotsRightUptoCard : Claim7 := { stood := { row := wotsRightUptoRow, standIns := [], harness := (true, "d0402cb894078d5edbd9f61593cb55ea83faee7bbe0ecf6a9ddf87be153d093c"), looks := false }, kinds := [], alts := [], laidByText := true, laidKinds := [.data, .data, .data, .data, .data], laidTests := true, laidLooks := .later }
def WotsRightUptoCardSaid : Prop := Claim7.holds Tryd.pinned (.plain (OpenSpec.upto wotsRightSpec)) wotsRightUptoCard

/-- THE SECOND FORM's CARD OF 'apostillelaw19.ForsRight'. -/
def forsRightUptoCard : Claim7 := { stood := { row := forsRightUptoRow, standIns := [], harness := (true, "d0402cb894078d5edbd9f61593cb55ea83faee7bbe0ecf6a9ddf87be153d093c"), looks := false }, kinds := [], alts := [], laidByText := true, laidKinds := [.data, .data, .data, .data, .data], laidTests := true, laidLooks := .later }
def ForsRightUptoCardSaid : Prop := Claim7.holds Tryd.pinned (.plain (OpenSpec.upto forsRightSpec)) forsRightUptoCard

/-- THE SECOND FORM's CARD OF 'apostillelaw18.XmssRight'. -/
def xmssRightUptoCard : Claim7 := { stood := { row := xmssRightUptoRow, standIns := [], harness := (true, "d0402cb894078d5edbd9f61593cb55ea83faee7bbe0ecf6a9ddf87be153d093c"), looks := false }, kinds := [], alts := [], laidByText := true, laidKinds := [.data, .data, .data, .data, .data], laidTests := true, laidLooks := .later }
def XmssRightUptoCardSaid : Prop := Claim7.holds Tryd.pinned (.plain (OpenSpec.upto xmssRightSpec)) xmssRightUptoCard
end Rows
end Go.Proofs.YtjhnljhjpnjieaaDoor
