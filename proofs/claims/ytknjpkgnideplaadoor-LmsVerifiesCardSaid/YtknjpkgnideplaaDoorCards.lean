/-
  DERIVED. GIVEN WITH THE SEED: THE CARDS: each row of YtknjpkgnideplaaDoorRows.lean that lists a variable, with what it lists TIED to the program's text (the seventh form; the later family's looks); each row that meets fmt, with fmt's text TOLD by the authors' own Lean function (tested against real Go, not proved from fmt's source: count such statements apart). THE CARD IS WHAT COUNTS. Prove the row's statement (the work); the ties are given (YtknjpkgnideplaaDoorTie.lean); close each card by the builder's one call (the guide's Derived/Test/ToyasCard.lean, 'card_holds'). Laid BY PROGRAM, IN A SANDBOX (cutbox-door.mjs). By AI agents, Wed Nov 11 2026. No macro, syntax, notation, axiom, sorry.
-/
import Derived.Test.YtknjpkgnideplaaDoorRows
import GoSem.ClaimSeven
namespace Go.Proofs.YtknjpkgnideplaaDoor
namespace Rows

/-- THE TIED CARD OF 'apostillelaw07.ShaAdds'. -/
def shaAddsCard : Claim7 := { stood := { row := shaAddsRow, standIns := [], harness := (true, "75743f0b73b4e7e28c5c2ad66f06eb873a2866bbc87d64bbce2c89560b6d2ebe"), looks := false }, kinds := [], alts := [], laidByText := true, laidKinds := [.data, .data], laidTests := true, laidLooks := .later }
def ShaAddsCardSaid : Prop := Claim7.holds Tryd.pinned (.plain (OpenSpec.ofChange shaAddsSpec)) shaAddsCard

/-- THE TIED CARD OF 'apostillelaw07.ShaFills'. -/
def shaFillsCard : Claim7 := { stood := { row := shaFillsRow, standIns := [], harness := (true, "75743f0b73b4e7e28c5c2ad66f06eb873a2866bbc87d64bbce2c89560b6d2ebe"), looks := false }, kinds := [], alts := [], laidByText := true, laidKinds := [.data, .data], laidTests := true, laidLooks := .later }
def ShaFillsCardSaid : Prop := Claim7.holds Tryd.pinned (.plain (OpenSpec.ofChange shaFillsSpec)) shaFillsCard

/-- THE TIED CARD OF 'apostillelaw07.ShaSums'. -/
def shaSumsCard : Claim7 := { stood := { row := shaSumsRow, standIns := [], harness := (true, "75743f0b73b4e7e28c5c2ad66f06eb873a2866bbc87d64bbce2c89560b6d2ebe"), looks := false }, kinds := [], alts := [], laidByText := true, laidKinds := [.data, .data], laidTests := true, laidLooks := .later }
def ShaSumsCardSaid : Prop := Claim7.holds Tryd.pinned (.plain (OpenSpec.ofChange shaSumsSpec)) shaSumsCard

/-- THE TIED CARD OF 'apostillelaw28.SectorThere'. -/
def sectorThereCard : Claim7 := { stood := { row := sectorThereRow, standIns := [], harness := (true, "75743f0b73b4e7e28c5c2ad66f06eb873a2866bbc87d64bbce2c89560b6d2ebe"), looks := false }, kinds := [], alts := [], laidByText := true, laidKinds := [.data, .data], laidTests := true, laidLooks := .later }
def SectorThereCardSaid : Prop := Claim7.holds Tryd.pinned (.plain (OpenSpec.ofChange sectorThereSpec)) sectorThereCard

/-- THE TIED CARD OF 'apostillelaw28.SectorTells'. -/
def sectorTellsCard : Claim7 := { stood := { row := sectorTellsRow, standIns := [], harness := (true, "75743f0b73b4e7e28c5c2ad66f06eb873a2866bbc87d64bbce2c89560b6d2ebe"), looks := false }, kinds := [], alts := [], laidByText := true, laidKinds := [.data, .data], laidTests := true, laidLooks := .later }
def SectorTellsCardSaid : Prop := Claim7.holds Tryd.pinned (.plain (OpenSpec.ofChange sectorTellsSpec)) sectorTellsCard

/-- THE TIED CARD OF 'apostillelaw28.SectorWrites'. -/
def sectorWritesCard : Claim7 := { stood := { row := sectorWritesRow, standIns := [], harness := (true, "75743f0b73b4e7e28c5c2ad66f06eb873a2866bbc87d64bbce2c89560b6d2ebe"), looks := false }, kinds := [], alts := [], laidByText := true, laidKinds := [.data, .data], laidTests := true, laidLooks := .later }
def SectorWritesCardSaid : Prop := Claim7.holds Tryd.pinned (.plain (OpenSpec.ofChange sectorWritesSpec)) sectorWritesCard

/-- THE TIED CARD OF 'apostillelaw28.SectorTorn'. -/
def sectorTornCard : Claim7 := { stood := { row := sectorTornRow, standIns := [], harness := (true, "75743f0b73b4e7e28c5c2ad66f06eb873a2866bbc87d64bbce2c89560b6d2ebe"), looks := false }, kinds := [], alts := [], laidByText := true, laidKinds := [.data, .data], laidTests := true, laidLooks := .later }
def SectorTornCardSaid : Prop := Claim7.holds Tryd.pinned (.plain (OpenSpec.ofChange sectorTornSpec)) sectorTornCard

/-- THE TIED CARD OF 'apostillelaw14.LmotsSigns'. -/
def lmotsSignsCard : Claim7 := { stood := { row := lmotsSignsRow, standIns := [], harness := (true, "75743f0b73b4e7e28c5c2ad66f06eb873a2866bbc87d64bbce2c89560b6d2ebe"), looks := false }, kinds := [], alts := [], laidByText := true, laidKinds := [.data, .data], laidTests := true, laidLooks := .later }
def LmotsSignsCardSaid : Prop := Claim7.holds Tryd.pinned (.plain (OpenSpec.ofChange lmotsSignsSpec)) lmotsSignsCard

/-- THE TIED CARD OF 'apostillelaw14.LmotsRight'. -/
def lmotsRightCard : Claim7 := { stood := { row := lmotsRightRow, standIns := [], harness := (true, "75743f0b73b4e7e28c5c2ad66f06eb873a2866bbc87d64bbce2c89560b6d2ebe"), looks := false }, kinds := [], alts := [], laidByText := true, laidKinds := [.data, .data], laidTests := true, laidLooks := .later }
def LmotsRightCardSaid : Prop := Claim7.holds Tryd.pinned (.plain (OpenSpec.ofChange lmotsRightSpec)) lmotsRightCard

/-- THE TIED CARD OF 'apostillelaw15.LmsVerifies'. -/
def lmsVerifiesCard : Claim7 := { stood := { row := lmsVerifiesRow, standIns := [], harness := (true, "75743f0b73b4e7e28c5c2ad66f06eb873a2866bbc87d64bbce2c89560b6d2ebe"), looks := false }, kinds := [], alts := [], laidByText := true, laidKinds := [.data, .data], laidTests := true, laidLooks := .later }
def LmsVerifiesCardSaid : Prop := Claim7.holds Tryd.pinned (.plain (OpenSpec.ofChange lmsVerifiesSpec)) lmsVerifiesCard

/-- THE SECOND FORM's CARD OF 'apostillelaw07.ShaAdds'. -/
def shaAddsUptoCard : Claim7 := { stood := { row := shaAddsUptoRow, standIns := [], harness := (true, "75743f0b73b4e7e28c5c2ad66f06eb873a2866bbc87d64bbce2c89560b6d2ebe"), looks := false }, kinds := [], alts := [], laidByText := true, laidKinds := [.data, .data], laidTests := true, laidLooks := .later }
def ShaAddsUptoCardSaid : Prop := Claim7.holds Tryd.pinned (.plain (OpenSpec.upto shaAddsSpec)) shaAddsUptoCard

/-- THE SECOND FORM's CARD OF 'apostillelaw07.ShaFills'. -/
def shaFillsUptoCard : Claim7 := { stood := { row := shaFillsUptoRow, standIns := [], harness := (true, "75743f0b73b4e7e28c5c2ad66f06eb873a2866bbc87d64bbce2c89560b6d2ebe"), looks := false }, kinds := [], alts := [], laidByText := true, laidKinds := [.data, .data], laidTests := true, laidLooks := .later }
def ShaFillsUptoCardSaid : Prop := Claim7.holds Tryd.pinned (.plain (OpenSpec.upto shaFillsSpec)) shaFillsUptoCard

/-- THE SECOND FORM's CARD OF 'apostillelaw07.ShaSums'. -/
def shaSumsUptoCard : Claim7 := { stood := { row := shaSumsUptoRow, standIns := [], harness := (true, "75743f0b73b4e7e28c5c2ad66f06eb873a2866bbc87d64bbce2c89560b6d2ebe"), looks := false }, kinds := [], alts := [], laidByText := true, laidKinds := [.data, .data], laidTests := true, laidLooks := .later }
def ShaSumsUptoCardSaid : Prop := Claim7.holds Tryd.pinned (.plain (OpenSpec.upto shaSumsSpec)) shaSumsUptoCard

/-- THE SECOND FORM's CARD OF 'apostillelaw28.SectorThere'. -/
def sectorThereUptoCard : Claim7 := { stood := { row := sectorThereUptoRow, standIns := [], harness := (true, "75743f0b73b4e7e28c5c2ad66f06eb873a2866bbc87d64bbce2c89560b6d2ebe"), looks := false }, kinds := [], alts := [], laidByText := true, laidKinds := [.data, .data], laidTests := true, laidLooks := .later }
def SectorThereUptoCardSaid : Prop := Claim7.holds Tryd.pinned (.plain (OpenSpec.upto sectorThereSpec)) sectorThereUptoCard

/-- THE SECOND FORM's CARD OF 'apostillelaw28.SectorTells'. -/
def sectorTellsUptoCard : Claim7 := { stood := { row := sectorTellsUptoRow, standIns := [], harness := (true, "75743f0b73b4e7e28c5c2ad66f06eb873a2866bbc87d64bbce2c89560b6d2ebe"), looks := false }, kinds := [], alts := [], laidByText := true, laidKinds := [.data, .data], laidTests := true, laidLooks := .later }
def SectorTellsUptoCardSaid : Prop := Claim7.holds Tryd.pinned (.plain (OpenSpec.upto sectorTellsSpec)) sectorTellsUptoCard

/-- THE SECOND FORM's CARD OF 'apostillelaw28.SectorWrites'. -/
def sectorWritesUptoCard : Claim7 := { stood := { row := sectorWritesUptoRow, standIns := [], harness := (true, "75743f0b73b4e7e28c5c2ad66f06eb873a2866bbc87d64bbce2c89560b6d2ebe"), looks := false }, kinds := [], alts := [], laidByText := true, laidKinds := [.data, .data], laidTests := true, laidLooks := .later }
def SectorWritesUptoCardSaid : Prop := Claim7.holds Tryd.pinned (.plain (OpenSpec.upto sectorWritesSpec)) sectorWritesUptoCard

/-- THE SECOND FORM's CARD OF 'apostillelaw28.SectorTorn'. -/
def sectorTornUptoCard : Claim7 := { stood := { row := sectorTornUptoRow, standIns := [], harness := (true, "75743f0b73b4e7e28c5c2ad66f06eb873a2866bbc87d64bbce2c89560b6d2ebe"), looks := false }, kinds := [], alts := [], laidByText := true, laidKinds := [.data, .data], laidTests := true, laidLooks := .later }
def SectorTornUptoCardSaid : Prop := Claim7.holds Tryd.pinned (.plain (OpenSpec.upto sectorTornSpec)) sectorTornUptoCard

/-- THE SECOND FORM's CARD OF 'apostillelaw14.LmotsSigns'. -/
def lmotsSignsUptoCard : Claim7 := { stood := { row := lmotsSignsUptoRow, standIns := [], harness := (true, "75743f0b73b4e7e28c5c2ad66f06eb873a2866bbc87d64bbce2c89560b6d2ebe"), looks := false }, kinds := [], alts := [], laidByText := true, laidKinds := [.data, .data], laidTests := true, laidLooks := .later }
def LmotsSignsUptoCardSaid : Prop := Claim7.holds Tryd.pinned (.plain (OpenSpec.upto lmotsSignsSpec)) lmotsSignsUptoCard

/-- THE SECOND FORM's CARD OF 'apostillelaw14.LmotsRight'. -/
def lmotsRightUptoCard : Claim7 := { stood := { row := lmotsRightUptoRow, standIns := [], harness := (true, "75743f0b73b4e7e28c5c2ad66f06eb873a2866bbc87d64bbce2c89560b6d2ebe"), looks := false }, kinds := [], alts := [], laidByText := true, laidKinds := [.data, .data], laidTests := true, laidLooks := .later }
def LmotsRightUptoCardSaid : Prop := Claim7.holds Tryd.pinned (.plain (OpenSpec.upto lmotsRightSpec)) lmotsRightUptoCard

/-- THE SECOND FORM's CARD OF 'apostillelaw15.LmsVerifies'. -/
def lmsVerifiesUptoCard : Claim7 := { stood := { row := lmsVerifiesUptoRow, standIns := [], harness := (true, "75743f0b73b4e7e28c5c2ad66f06eb873a2866bbc87d64bbce2c89560b6d2ebe"), looks := false }, kinds := [], alts := [], laidByText := true, laidKinds := [.data, .data], laidTests := true, laidLooks := .later }
def LmsVerifiesUptoCardSaid : Prop := Claim7.holds Tryd.pinned (.plain (OpenSpec.upto lmsVerifiesSpec)) lmsVerifiesUptoCard
end Rows
end Go.Proofs.YtknjpkgnideplaaDoor
