/-
  DERIVED. GIVEN WITH THE SEED: THE PROGRAM's TIES (one call each: nine closed facts by the kernel) AND EACH ROW's TIE, after the 31st guide's Derived/Test/Toyas{Tie, Card}.lean. No idea stands in it: it is a product of the set-up. Laid BY PROGRAM, IN A SANDBOX (cutbox-door.mjs). By AI agents, Wed Nov 11 2026. No macro, syntax, notation, axiom, sorry.
-/
import Derived.Test.YtpcbmjphffpplaaGreatDoorRows
import Derived.LaidByTextLater
import Derived.SevenTiedAt
import Derived.LaidSub
import Derived.LaidOnce
namespace Go.Proofs.YtpcbmjphffpplaaGreatDoor
open Go
set_option maxRecDepth 100000
theorem seatTie1 : Tryz.prog.laidByTextLater [("pub-bullarium/pub/jwx/jwa.errInvalidKeyAlgorithm", Rows.laid_pub_bullarium_pub_jwx_jwa_errInvalidKeyAlgorithm)] [.sentinel] true :=
  Program.laidByTextLater_by_one 28 8 2 (by kernel_rfl) (by kernel_rfl) (by kernel_rfl) (by kernel_rfl) (by kernel_rfl) (by kernel_rfl) (fun _ _ => by kernel_rfl)
theorem noOwnUnsafe : Tryz.pinned.checked.prog.headLifts.contains "ownunsafe" = false := by kernel_rfl
theorem tie : Tryz.prog.laidByTextLater [("pub-bullarium/pub/jwx/jwa.errInvalidKeyAlgorithm", Rows.laid_pub_bullarium_pub_jwx_jwa_errInvalidKeyAlgorithm)] [.sentinel] true :=
  Program.laidByTextLater.sub seatTie1 ["pub-bullarium/pub/jwx/jwa.errInvalidKeyAlgorithm"] (by kernel_rfl) (by kernel_rfl)
theorem fnKeySetClones_row_tie : Rows.fnKeySetClonesRow.laidByTextAt .later Tryz.pinned [.sentinel] true :=
  OpenClaim.laidByTextAt_later rfl rfl tie noOwnUnsafe
theorem fnKeySetCleared_row_tie : Rows.fnKeySetClearedRow.laidByTextAt .later Tryz.pinned [.sentinel] true :=
  OpenClaim.laidByTextAt_later rfl rfl tie noOwnUnsafe
theorem fnKeySetClonesUpto_row_tie : Rows.fnKeySetClonesUptoRow.laidByTextAt .later Tryz.pinned [.sentinel] true :=
  OpenClaim.laidByTextAt_later rfl rfl tie noOwnUnsafe
theorem fnKeySetClearedUpto_row_tie : Rows.fnKeySetClearedUptoRow.laidByTextAt .later Tryz.pinned [.sentinel] true :=
  OpenClaim.laidByTextAt_later rfl rfl tie noOwnUnsafe
end Go.Proofs.YtpcbmjphffpplaaGreatDoor
