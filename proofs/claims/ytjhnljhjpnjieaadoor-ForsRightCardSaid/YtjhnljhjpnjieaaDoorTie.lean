/-
  DERIVED. GIVEN WITH THE SEED: THE PROGRAM's TIES (one call each: nine closed facts by the kernel) AND EACH ROW's TIE, after the 31st guide's Derived/Test/Toyas{Tie, Card}.lean. No idea stands in it: it is a product of the set-up. Laid BY PROGRAM, IN A SANDBOX (cutbox-door.mjs). By AI agents, Wed Nov 11 2026. No macro, syntax, notation, axiom, sorry.
-/
import Derived.Test.YtjhnljhjpnjieaaDoorRows
import Derived.LaidByTextLater
import Derived.SevenTiedAt
import Derived.LaidSub
import Derived.LaidOnce
namespace Go.Proofs.YtjhnljhjpnjieaaDoor
open Go
set_option maxRecDepth 100000
theorem seatTie1 : Tryd.prog.laidByTextLater [("apostille/keccak.constants", Rows.laid_apostille_keccak_constants), ("apostille/keccak.places", Rows.laid_apostille_keccak_places), ("apostille/keccak.turns", Rows.laid_apostille_keccak_turns), ("apostille/sha.roots256", Rows.laid_apostille_sha_roots256), ("apostille/sha.roots512", Rows.laid_apostille_sha_roots512), ("apostille/mac.sizes", Rows.laid_apostille_mac_sizes)] [.data, .data, .data, .data, .data, .data] true :=
  Program.laidByTextLater_by_one 47 8 81 (by kernel_rfl) (by kernel_rfl) (by kernel_rfl) (by kernel_rfl) (by kernel_rfl) (by kernel_rfl) (fun _ _ => by kernel_rfl)
theorem seatTie2 : Tryd.prog.laidByTextLater [("apostille/keccak.constants", Rows.laid_apostille_keccak_constants), ("apostille/keccak.places", Rows.laid_apostille_keccak_places), ("apostille/keccak.turns", Rows.laid_apostille_keccak_turns), ("apostille/sha.roots256", Rows.laid_apostille_sha_roots256), ("apostille/sha.roots512", Rows.laid_apostille_sha_roots512)] [.data, .data, .data, .data, .data] true :=
  Program.laidByTextLater_by_one 47 8 81 (by kernel_rfl) (by kernel_rfl) (by kernel_rfl) (by kernel_rfl) (by kernel_rfl) (by kernel_rfl) (fun _ _ => by kernel_rfl)
theorem noOwnUnsafe : Tryd.pinned.checked.prog.headLifts.contains "ownunsafe" = false := by kernel_rfl
theorem tie : Tryd.prog.laidByTextLater [("apostille/keccak.constants", Rows.laid_apostille_keccak_constants), ("apostille/keccak.places", Rows.laid_apostille_keccak_places), ("apostille/keccak.turns", Rows.laid_apostille_keccak_turns), ("apostille/sha.roots256", Rows.laid_apostille_sha_roots256), ("apostille/sha.roots512", Rows.laid_apostille_sha_roots512), ("apostille/mac.sizes", Rows.laid_apostille_mac_sizes)] [.data, .data, .data, .data, .data, .data] true :=
  Program.laidByTextLater.sub seatTie1 ["apostille/keccak.constants", "apostille/keccak.places", "apostille/keccak.turns", "apostille/sha.roots256", "apostille/sha.roots512", "apostille/mac.sizes"] (by kernel_rfl) (by kernel_rfl)
theorem macTells_row_tie : Rows.macTellsRow.laidByTextAt .later Tryd.pinned [.data, .data, .data, .data, .data, .data] true :=
  OpenClaim.laidByTextAt_later rfl rfl tie noOwnUnsafe
theorem macGrows_row_tie : Rows.macGrowsRow.laidByTextAt .later Tryd.pinned [.data, .data, .data, .data, .data, .data] true :=
  OpenClaim.laidByTextAt_later rfl rfl tie noOwnUnsafe
theorem macStarts_row_tie : Rows.macStartsRow.laidByTextAt .later Tryd.pinned [.data, .data, .data, .data, .data, .data] true :=
  OpenClaim.laidByTextAt_later rfl rfl tie noOwnUnsafe
theorem tie2 : Tryd.prog.laidByTextLater [("apostille/keccak.constants", Rows.laid_apostille_keccak_constants), ("apostille/keccak.places", Rows.laid_apostille_keccak_places), ("apostille/keccak.turns", Rows.laid_apostille_keccak_turns), ("apostille/sha.roots256", Rows.laid_apostille_sha_roots256), ("apostille/sha.roots512", Rows.laid_apostille_sha_roots512)] [.data, .data, .data, .data, .data] true :=
  Program.laidByTextLater.sub seatTie2 ["apostille/keccak.constants", "apostille/keccak.places", "apostille/keccak.turns", "apostille/sha.roots256", "apostille/sha.roots512"] (by kernel_rfl) (by kernel_rfl)
theorem wotsTells_row_tie : Rows.wotsTellsRow.laidByTextAt .later Tryd.pinned [.data, .data, .data, .data, .data] true :=
  OpenClaim.laidByTextAt_later rfl rfl tie2 noOwnUnsafe
theorem wotsRight_row_tie : Rows.wotsRightRow.laidByTextAt .later Tryd.pinned [.data, .data, .data, .data, .data] true :=
  OpenClaim.laidByTextAt_later rfl rfl tie2 noOwnUnsafe
theorem forsRight_row_tie : Rows.forsRightRow.laidByTextAt .later Tryd.pinned [.data, .data, .data, .data, .data] true :=
  OpenClaim.laidByTextAt_later rfl rfl tie2 noOwnUnsafe
theorem xmssRight_row_tie : Rows.xmssRightRow.laidByTextAt .later Tryd.pinned [.data, .data, .data, .data, .data] true :=
  OpenClaim.laidByTextAt_later rfl rfl tie2 noOwnUnsafe
theorem macTellsUpto_row_tie : Rows.macTellsUptoRow.laidByTextAt .later Tryd.pinned [.data, .data, .data, .data, .data, .data] true :=
  OpenClaim.laidByTextAt_later rfl rfl tie noOwnUnsafe
theorem macGrowsUpto_row_tie : Rows.macGrowsUptoRow.laidByTextAt .later Tryd.pinned [.data, .data, .data, .data, .data, .data] true :=
  OpenClaim.laidByTextAt_later rfl rfl tie noOwnUnsafe
theorem macStartsUpto_row_tie : Rows.macStartsUptoRow.laidByTextAt .later Tryd.pinned [.data, .data, .data, .data, .data, .data] true :=
  OpenClaim.laidByTextAt_later rfl rfl tie noOwnUnsafe
theorem wotsTellsUpto_row_tie : Rows.wotsTellsUptoRow.laidByTextAt .later Tryd.pinned [.data, .data, .data, .data, .data] true :=
  OpenClaim.laidByTextAt_later rfl rfl tie2 noOwnUnsafe
theorem wotsRightUpto_row_tie : Rows.wotsRightUptoRow.laidByTextAt .later Tryd.pinned [.data, .data, .data, .data, .data] true :=
  OpenClaim.laidByTextAt_later rfl rfl tie2 noOwnUnsafe
theorem forsRightUpto_row_tie : Rows.forsRightUptoRow.laidByTextAt .later Tryd.pinned [.data, .data, .data, .data, .data] true :=
  OpenClaim.laidByTextAt_later rfl rfl tie2 noOwnUnsafe
theorem xmssRightUpto_row_tie : Rows.xmssRightUptoRow.laidByTextAt .later Tryd.pinned [.data, .data, .data, .data, .data] true :=
  OpenClaim.laidByTextAt_later rfl rfl tie2 noOwnUnsafe
end Go.Proofs.YtjhnljhjpnjieaaDoor
