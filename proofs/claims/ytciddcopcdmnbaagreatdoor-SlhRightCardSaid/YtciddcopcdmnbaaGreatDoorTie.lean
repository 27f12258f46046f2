/-
  DERIVED. GIVEN WITH THE SEED: THE PROGRAM's TIES (one call each: nine closed facts by the kernel) AND EACH ROW's TIE, after the 31st guide's Derived/Test/Toyas{Tie, Card}.lean. No idea stands in it: it is a product of the set-up. Laid BY PROGRAM, IN A SANDBOX (cutbox-door.mjs). By AI agents, Wed Nov 11 2026. No macro, syntax, notation, axiom, sorry.
-/
import Derived.Test.YtciddcopcdmnbaaGreatDoorRows
import Derived.LaidByTextLater
import Derived.SevenTiedAt
import Derived.LaidSub
import Derived.LaidOnce
namespace Go.Proofs.YtciddcopcdmnbaaGreatDoor
open Go
set_option maxRecDepth 100000
theorem seatTie1 : Tryz.prog.laidByTextLater [("apostille/keccak.constants", Rows.laid_apostille_keccak_constants), ("apostille/keccak.places", Rows.laid_apostille_keccak_places), ("apostille/keccak.turns", Rows.laid_apostille_keccak_turns), ("apostille/sha.roots256", Rows.laid_apostille_sha_roots256), ("apostille/sha.roots512", Rows.laid_apostille_sha_roots512), ("apostille/mac.sizes", Rows.laid_apostille_mac_sizes), ("apostille/slh.kinds", Rows.laid_apostille_slh_kinds)] [.data, .data, .data, .data, .data, .data, .data] true :=
  Program.laidByTextLater_by_one 58 8 81 (by kernel_rfl) (by kernel_rfl) (by kernel_rfl) (by kernel_rfl) (by kernel_rfl) (by kernel_rfl) (fun _ _ => by kernel_rfl)
theorem noOwnUnsafe : Tryz.pinned.checked.prog.headLifts.contains "ownunsafe" = false := by kernel_rfl
theorem tie : Tryz.prog.laidByTextLater [("apostille/keccak.constants", Rows.laid_apostille_keccak_constants), ("apostille/keccak.places", Rows.laid_apostille_keccak_places), ("apostille/keccak.turns", Rows.laid_apostille_keccak_turns), ("apostille/sha.roots256", Rows.laid_apostille_sha_roots256), ("apostille/sha.roots512", Rows.laid_apostille_sha_roots512), ("apostille/mac.sizes", Rows.laid_apostille_mac_sizes), ("apostille/slh.kinds", Rows.laid_apostille_slh_kinds)] [.data, .data, .data, .data, .data, .data, .data] true :=
  Program.laidByTextLater.sub seatTie1 ["apostille/keccak.constants", "apostille/keccak.places", "apostille/keccak.turns", "apostille/sha.roots256", "apostille/sha.roots512", "apostille/mac.sizes", "apostille/slh.kinds"] (by kernel_rfl) (by kernel_rfl)
theorem slhVerifies_row_tie : Rows.slhVerifiesRow.laidByTextAt .later Tryz.pinned [.data, .data, .data, .data, .data, .data, .data] true :=
  OpenClaim.laidByTextAt_later rfl rfl tie noOwnUnsafe
theorem slhMakes_row_tie : Rows.slhMakesRow.laidByTextAt .later Tryz.pinned [.data, .data, .data, .data, .data, .data, .data] true :=
  OpenClaim.laidByTextAt_later rfl rfl tie noOwnUnsafe
theorem slhSigns_row_tie : Rows.slhSignsRow.laidByTextAt .later Tryz.pinned [.data, .data, .data, .data, .data, .data, .data] true :=
  OpenClaim.laidByTextAt_later rfl rfl tie noOwnUnsafe
theorem slhRight_row_tie : Rows.slhRightRow.laidByTextAt .later Tryz.pinned [.data, .data, .data, .data, .data, .data, .data] true :=
  OpenClaim.laidByTextAt_later rfl rfl tie noOwnUnsafe
theorem slhVerifiesUpto_row_tie : Rows.slhVerifiesUptoRow.laidByTextAt .later Tryz.pinned [.data, .data, .data, .data, .data, .data, .data] true :=
  OpenClaim.laidByTextAt_later rfl rfl tie noOwnUnsafe
theorem slhMakesUpto_row_tie : Rows.slhMakesUptoRow.laidByTextAt .later Tryz.pinned [.data, .data, .data, .data, .data, .data, .data] true :=
  OpenClaim.laidByTextAt_later rfl rfl tie noOwnUnsafe
theorem slhSignsUpto_row_tie : Rows.slhSignsUptoRow.laidByTextAt .later Tryz.pinned [.data, .data, .data, .data, .data, .data, .data] true :=
  OpenClaim.laidByTextAt_later rfl rfl tie noOwnUnsafe
theorem slhRightUpto_row_tie : Rows.slhRightUptoRow.laidByTextAt .later Tryz.pinned [.data, .data, .data, .data, .data, .data, .data] true :=
  OpenClaim.laidByTextAt_later rfl rfl tie noOwnUnsafe
end Go.Proofs.YtciddcopcdmnbaaGreatDoor
