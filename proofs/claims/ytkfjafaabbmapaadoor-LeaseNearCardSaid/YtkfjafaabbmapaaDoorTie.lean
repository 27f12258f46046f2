/-
  DERIVED. GIVEN WITH THE SEED: THE PROGRAM's TIES (one call each: nine closed facts by the kernel) AND EACH ROW's TIE, after the 31st guide's Derived/Test/Toyas{Tie, Card}.lean. No idea stands in it: it is a product of the set-up. Laid BY PROGRAM, IN A SANDBOX (cutbox-door.mjs). By AI agents, Wed Nov 11 2026. No macro, syntax, notation, axiom, sorry.
-/
import Derived.Test.YtkfjafaabbmapaaDoorRows
import Derived.LaidByTextLater
import Derived.SevenTiedAt
import Derived.LaidSub
import Derived.LaidOnce
namespace Go.Proofs.YtkfjafaabbmapaaDoor
open Go
set_option maxRecDepth 100000
theorem seatTie1 : Tryd.prog.laidByTextLater [("apostille/sha.roots256", Rows.laid_apostille_sha_roots256), ("apostille/sha.roots512", Rows.laid_apostille_sha_roots512)] [.data, .data] true :=
  Program.laidByTextLater_by_one 19 8 81 (by kernel_rfl) (by kernel_rfl) (by kernel_rfl) (by kernel_rfl) (by kernel_rfl) (by kernel_rfl) (fun _ _ => by kernel_rfl)
theorem noOwnUnsafe : Tryd.pinned.checked.prog.headLifts.contains "ownunsafe" = false := by kernel_rfl
theorem tie : Tryd.prog.laidByTextLater [("apostille/sha.roots256", Rows.laid_apostille_sha_roots256), ("apostille/sha.roots512", Rows.laid_apostille_sha_roots512)] [.data, .data] true :=
  Program.laidByTextLater.sub seatTie1 ["apostille/sha.roots256", "apostille/sha.roots512"] (by kernel_rfl) (by kernel_rfl)
theorem leaseTells_row_tie : Rows.leaseTellsRow.laidByTextAt .later Tryd.pinned [.data, .data] true :=
  OpenClaim.laidByTextAt_later rfl rfl tie noOwnUnsafe
theorem leasePlays_row_tie : Rows.leasePlaysRow.laidByTextAt .later Tryd.pinned [.data, .data] true :=
  OpenClaim.laidByTextAt_later rfl rfl tie noOwnUnsafe
theorem leaseOnce_row_tie : Rows.leaseOnceRow.laidByTextAt .later Tryd.pinned [.data, .data] true :=
  OpenClaim.laidByTextAt_later rfl rfl tie noOwnUnsafe
theorem leaseNear_row_tie : Rows.leaseNearRow.laidByTextAt .later Tryd.pinned [.data, .data] true :=
  OpenClaim.laidByTextAt_later rfl rfl tie noOwnUnsafe
theorem leaseSpent_row_tie : Rows.leaseSpentRow.laidByTextAt .later Tryd.pinned [.data, .data] true :=
  OpenClaim.laidByTextAt_later rfl rfl tie noOwnUnsafe
theorem leaseTellsUpto_row_tie : Rows.leaseTellsUptoRow.laidByTextAt .later Tryd.pinned [.data, .data] true :=
  OpenClaim.laidByTextAt_later rfl rfl tie noOwnUnsafe
theorem leasePlaysUpto_row_tie : Rows.leasePlaysUptoRow.laidByTextAt .later Tryd.pinned [.data, .data] true :=
  OpenClaim.laidByTextAt_later rfl rfl tie noOwnUnsafe
theorem leaseOnceUpto_row_tie : Rows.leaseOnceUptoRow.laidByTextAt .later Tryd.pinned [.data, .data] true :=
  OpenClaim.laidByTextAt_later rfl rfl tie noOwnUnsafe
theorem leaseNearUpto_row_tie : Rows.leaseNearUptoRow.laidByTextAt .later Tryd.pinned [.data, .data] true :=
  OpenClaim.laidByTextAt_later rfl rfl tie noOwnUnsafe
theorem leaseSpentUpto_row_tie : Rows.leaseSpentUptoRow.laidByTextAt .later Tryd.pinned [.data, .data] true :=
  OpenClaim.laidByTextAt_later rfl rfl tie noOwnUnsafe
end Go.Proofs.YtkfjafaabbmapaaDoor
