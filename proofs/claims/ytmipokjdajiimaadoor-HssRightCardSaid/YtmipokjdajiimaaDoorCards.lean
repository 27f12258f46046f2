/-
  DERIVED. GIVEN WITH THE SEED: THE CARDS: each row of YtmipokjdajiimaaDoorRows.lean that lists a variable, with what it lists TIED to the program's text (the seventh form; the later family's looks); each row that meets fmt, with fmt's text TOLD by the authors' own Lean function (tested against real Go, not proved from fmt's source: count such statements apart). THE CARD IS WHAT COUNTS. Prove the row's statement (the work); the ties are given (YtmipokjdajiimaaDoorTie.lean); close each card by the builder's one call (the guide's Derived/Test/ToyasCard.lean, 'card_holds'). Laid BY PROGRAM, IN A SANDBOX (cutbox-door.mjs). By AI agents, Wed Nov 11 2026. No macro, syntax, notation, axiom, sorry.
-/
import Derived.Test.YtmipokjdajiimaaDoorRows
import GoSem.ClaimSeven
namespace Go.Proofs.YtmipokjdajiimaaDoor
namespace Rows

/-- THE TIED CARD OF 'apostillelaw16.HssTells'. -/
def hssTellsCard : Claim7 := { stood := { row := hssTellsRow, standIns := [], harness := (true, "b9f1601316105e3d7750e3697d9bcdb6c5faebabbb02a4b1ceeb4c0d302d3980"), looks := false }, kinds := [], alts := [], laidByText := true, laidKinds := [.data, .data], laidTests := true, laidLooks := .later }
def HssTellsCardSaid : Prop := Claim7.holds Tryd.pinned (.plain (OpenSpec.ofChange hssTellsSpec)) hssTellsCard

/-- THE TIED CARD OF 'apostillelaw16.HssVerifies'. -/
def hssVerifiesCard : Claim7 := { stood := { row := hssVerifiesRow, standIns := [], harness := (true, "b9f1601316105e3d7750e3697d9bcdb6c5faebabbb02a4b1ceeb4c0d302d3980"), looks := false }, kinds := [], alts := [], laidByText := true, laidKinds := [.data, .data], laidTests := true, laidLooks := .later }
def HssVerifiesCardSaid : Prop := Claim7.holds Tryd.pinned (.plain (OpenSpec.ofChange hssVerifiesSpec)) hssVerifiesCard

/-- THE TIED CARD OF 'apostillelaw16.HssOnce'. -/
def hssOnceCard : Claim7 := { stood := { row := hssOnceRow, standIns := [], harness := (true, "b9f1601316105e3d7750e3697d9bcdb6c5faebabbb02a4b1ceeb4c0d302d3980"), looks := false }, kinds := [], alts := [], laidByText := true, laidKinds := [.data, .data], laidTests := true, laidLooks := .later }
def HssOnceCardSaid : Prop := Claim7.holds Tryd.pinned (.plain (OpenSpec.ofChange hssOnceSpec)) hssOnceCard

/-- THE TIED CARD OF 'apostillelaw16.HssRight'. -/
def hssRightCard : Claim7 := { stood := { row := hssRightRow, standIns := [], harness := (true, "b9f1601316105e3d7750e3697d9bcdb6c5faebabbb02a4b1ceeb4c0d302d3980"), looks := false }, kinds := [], alts := [], laidByText := true, laidKinds := [.data, .data], laidTests := true, laidLooks := .later }
def HssRightCardSaid : Prop := Claim7.holds Tryd.pinned (.plain (OpenSpec.ofChange hssRightSpec)) hssRightCard

/-- THE TIED CARD OF 'apostillelaw15.LmsRight'. -/
def lmsRightCard : Claim7 := { stood := { row := lmsRightRow, standIns := [], harness := (true, "b9f1601316105e3d7750e3697d9bcdb6c5faebabbb02a4b1ceeb4c0d302d3980"), looks := false }, kinds := [], alts := [], laidByText := true, laidKinds := [.data, .data], laidTests := true, laidLooks := .later }
def LmsRightCardSaid : Prop := Claim7.holds Tryd.pinned (.plain (OpenSpec.ofChange lmsRightSpec)) lmsRightCard

/-- THE SECOND FORM's CARD OF 'apostillelaw16.HssTells'. -/
def hssTellsUptoCard : Claim7 := { stood := { row := hssTellsUptoRow, standIns := [], harness := (true, "b9f1601316105e3d7750e3697d9bcdb6c5faebabbb02a4b1ceeb4c0d302d3980"), looks := false }, kinds := [], alts := [], laidByText := true, laidKinds := [.data, .data], laidTests := true, laidLooks := .later }
def HssTellsUptoCardSaid : Prop := Claim7.holds Tryd.pinned (.plain (OpenSpec.upto hssTellsSpec)) hssTellsUptoCard

/-- THE SECOND FORM's CARD OF 'apostillelaw16.HssVerifies'. -/
def hssVerifiesUptoCard : Claim7 := { stood := { row := hssVerifiesUptoRow, standIns := [], harness := (true, "b9f1601316105e3d7750e3697d9bcdb6c5faebabbb02a4b1ceeb4c0d302d3980"), looks := false }, kinds := [], alts := [], laidByText := true, laidKinds := [.data, .data], laidTests := true, laidLooks := .later }
def HssVerifiesUptoCardSaid : Prop := Claim7.holds Tryd.pinned (.plain (OpenSpec.upto hssVerifiesSpec)) hssVerifiesUptoCard

/-- THE SECOND FORM's CARD OF 'apostillelaw16.HssOnce'. -/
def hssOnceUptoCard : Claim7 := { stood := { row := hssOnceUptoRow, standIns := [], harness := (true, "b9f1601316105e3d7750e3697d9bcdb6c5faebabbb02a4b1ceeb4c0d302d3980"), looks := false }, kinds := [], alts := [], laidByText := true, laidKinds := [.data, .data], laidTests := true, laidLooks := .later }
def HssOnceUptoCardSaid : Prop := Claim7.holds Tryd.pinned (.plain (OpenSpec.upto hssOnceSpec)) hssOnceUptoCard

/-- THE SECOND FORM's CARD OF 'apostillelaw16.HssRight'. -/
def hssRightUptoCard : Claim7 := { stood := { row := hssRightUptoRow, standIns := [], harness := (true, "b9f1601316105e3d7750e3697d9bcdb6c5faebabbb02a4b1ceeb4c0d302d3980"), looks := false }, kinds := [], alts := [], laidByText := true, laidKinds := [.data, .data], laidTests := true, laidLooks := .later }
def HssRightUptoCardSaid : Prop := Claim7.holds Tryd.pinned (.plain (OpenSpec.upto hssRightSpec)) hssRightUptoCard

/-- THE SECOND FORM's CARD OF 'apostillelaw15.LmsRight'. -/
def lmsRightUptoCard : Claim7 := { stood := { row := lmsRightUptoRow, standIns := [], harness := (true, "b9f1601316105e3d7750e3697d9bcdb6c5faebabbb02a4b1ceeb4c0d302d3980"), looks := false }, kinds := [], alts := [], laidByText := true, laidKinds := [.data, .data], laidTests := true, laidLooks := .later }
def LmsRightUptoCardSaid : Prop := Claim7.holds Tryd.pinned (.plain (OpenSpec.upto lmsRightSpec)) lmsRightUptoCard
end Rows
end Go.Proofs.YtmipokjdajiimaaDoor
