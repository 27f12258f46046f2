/-
  DERIVED. GIVEN WITH THE SEED: THE CARDS: each row of YtkfjafaabbmapaaDoorRows.lean that lists a variable, with what it lists TIED to the program's text (the seventh form; the later family's looks); each row that meets fmt, with fmt's text TOLD by the authors' own Lean function (tested against real Go, not proved from fmt's source: count such statements apart). THE CARD IS WHAT COUNTS. Prove the row's statement (the work); the ties are given (YtkfjafaabbmapaaDoorTie.lean); close each card by the builder's one call (the guide's Derived/Test/ToyasCard.lean, 'card_holds'). Laid BY PROGRAM, IN A SANDBOX (cutbox-door.mjs). By AI agents, Wed Nov 11 2026. No macro, syntax, notation, axiom, sorry.
-/
import Derived.Test.YtkfjafaabbmapaaDoorRows
import GoSem.ClaimSeven
namespace Go.Proofs.YtkfjafaabbmapaaDoor
namespace Rows

/-- THE TIED CARD OF 'apostillelaw29.LeaseTells'. -/
def leaseTellsCard : Claim7 := { stood := { row := leaseTellsRow, standIns := [], harness := (true, "7a5da77026582067a5151026a490d1cd2c46687704a1503e014e8c59316ca97e"), looks := false }, kinds := [], alts := [], laidByText := true, laidKinds := [.data, .data], laidTests := true, laidLooks := .later }
def LeaseTellsCardSaid : Prop := Claim7.holds Tryd.pinned (.plain (OpenSpec.ofChange leaseTellsSpec)) leaseTellsCard

/-- THE TIED CARD OF 'apostillelaw29.LeasePlays'. -/
def leasePlaysCard : Claim7 := { stood := { row := leasePlaysRow, standIns := [], harness := (true, "7a5da77026582067a5151026a490d1cd2c46687704a1503e014e8c59316ca97e"), looks := false }, kinds := [], alts := [], laidByText := true, laidKinds := [.data, .data], laidTests := true, laidLooks := .later }
def LeasePlaysCardSaid : Prop := Claim7.holds Tryd.pinned (.plain (OpenSpec.ofChange leasePlaysSpec)) leasePlaysCard

/-- THE TIED CARD OF 'apostillelaw29.LeaseOnce'. -/
def leaseOnceCard : Claim7 := { stood := { row := leaseOnceRow, standIns := [], harness := (true, "7a5da77026582067a5151026a490d1cd2c46687704a1503e014e8c59316ca97e"), looks := false }, kinds := [], alts := [], laidByText := true, laidKinds := [.data, .data], laidTests := true, laidLooks := .later }
def LeaseOnceCardSaid : Prop := Claim7.holds Tryd.pinned (.plain (OpenSpec.ofChange leaseOnceSpec)) leaseOnceCard

/-- THE TIED CARD OF 'apostillelaw29.LeaseNear'. -/
def leaseNearCard : Claim7 := { stood := { row := leaseNearRow, standIns := [], harness := (true, "7a5da77026582067a5151026a490d1cd2c46687704a1503e014e8c59316ca97e"), looks := false }, kinds := [], alts := [], laidByText := true, laidKinds := [.data, .data], laidTests := true, laidLooks := .later }
def LeaseNearCardSaid : Prop := Claim7.holds Tryd.pinned (.plain (OpenSpec.ofChange leaseNearSpec)) leaseNearCard

/-- THE TIED CARD OF 'apostillelaw29.LeaseSpent'. -/
def leaseSpentCard : Claim7 := { stood := { row := leaseSpentRow, standIns := [], harness := (true, "7a5da77026582067a5151026a490d1cd2c46687704a1503e014e8c59316ca97e"), looks := false }, kinds := [], alts := [], laidByText := true, laidKinds := [.data, .data], laidTests := true, laidLooks := .later }
def LeaseSpentCardSaid : Prop := Claim7.holds Tryd.pinned (.plain (OpenSpec.ofChange leaseSpentSpec)) leaseSpentCard

/-- THE SECOND FORM's CARD OF 'apostillelaw29.LeaseTells'. -/
def leaseTellsUptoCard : Claim7 := { stood := { row := leaseTellsUptoRow, standIns := [], harness := (true, "7a5da77026582067a5151026a490d1cd2c46687704a1503e014e8c59316ca97e"), looks := false }, kinds := [], alts := [], laidByText := true, laidKinds := [.data, .data], laidTests := true, laidLooks := .later }
def LeaseTellsUptoCardSaid : Prop := Claim7.holds Tryd.pinned (.plain (OpenSpec.upto leaseTellsSpec)) leaseTellsUptoCard

/-- THE SECOND FORM's CARD OF 'apostillelaw29.LeasePlays'. -/
def leasePlaysUptoCard : Claim7 := { stood := { row := leasePlaysUptoRow, standIns := [], harness := (true, "7a5da77026582067a5151026a490d1cd2c46687704a1503e014e8c59316ca97e"), looks := false }, kinds := [], alts := [], laidByText := true, laidKinds := [.data, .data], laidTests := true, laidLooks := .later }
def LeasePlaysUptoCardSaid : Prop := Claim7.holds Tryd.pinned (.plain (OpenSpec.upto leasePlaysSpec)) leasePlaysUptoCard

/-- THE SECOND FORM's CARD OF 'apostillelaw29.LeaseOnce'. -/
def leaseOnceUptoCard : Claim7 := { stood := { row := leaseOnceUptoRow, standIns := [], harness := (true, "7a5da77026582067a5151026a490d1cd2c46687704a1503e014e8c59316ca97e"), looks := false }, kinds := [], alts := [], laidByText := true, laidKinds := [.data, .data], laidTests := true, laidLooks := .later }
def LeaseOnceUptoCardSaid : Prop := Claim7.holds Tryd.pinned (.plain (OpenSpec.upto leaseOnceSpec)) leaseOnceUptoCard

/-- THE SECOND FORM's CARD OF 'apostillelaw29.LeaseNear'. -/
def leaseNearUptoCard : Claim7 := { stood := { row := leaseNearUptoRow, standIns := [], harness := (true, "7a5da77026582067a5151026a490d1cd2c46687704a1503e014e8c59316ca97e"), looks := false }, kinds := [], alts := [], laidByText := true, laidKinds := [.data, .data], laidTests := true, laidLooks := .later }
def LeaseNearUptoCardSaid : Prop := Claim7.holds Tryd.pinned (.plain (OpenSpec.upto leaseNearSpec)) leaseNearUptoCard

/-- THE SECOND FORM's CARD OF 'apostillelaw29.LeaseSpent'. -/
def leaseSpentUptoCard : Claim7 := { stood := { row := leaseSpentUptoRow, standIns := [], harness := (true, "7a5da77026582067a5151026a490d1cd2c46687704a1503e014e8c59316ca97e"), looks := false }, kinds := [], alts := [], laidByText := true, laidKinds := [.data, .data], laidTests := true, laidLooks := .later }
def LeaseSpentUptoCardSaid : Prop := Claim7.holds Tryd.pinned (.plain (OpenSpec.upto leaseSpentSpec)) leaseSpentUptoCard
end Rows
end Go.Proofs.YtkfjafaabbmapaaDoor
