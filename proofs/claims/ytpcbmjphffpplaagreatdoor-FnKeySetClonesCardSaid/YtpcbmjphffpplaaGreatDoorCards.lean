/-
  DERIVED. GIVEN WITH THE SEED: THE CARDS: each row of YtpcbmjphffpplaaGreatDoorRows.lean that lists a variable, with what it lists TIED to the program's text (the seventh form; the later family's looks); each row that meets fmt, with fmt's text TOLD by the authors' own Lean function (tested against real Go, not proved from fmt's source: count such statements apart). THE CARD IS WHAT COUNTS. Prove the row's statement (the work); the ties are given (YtpcbmjphffpplaaGreatDoorTie.lean); close each card by the builder's one call (the guide's Derived/Test/ToyasCard.lean, 'card_holds'). Laid BY PROGRAM, IN A SANDBOX (cutbox-door.mjs). By AI agents, Wed Nov 11 2026. No macro, syntax, notation, axiom, sorry.
-/
import Derived.Test.YtpcbmjphffpplaaGreatDoorRows
import GoSem.ClaimSeven
namespace Go.Proofs.YtpcbmjphffpplaaGreatDoor
namespace Rows

/-- THE TIED CARD OF 'laws.FnKeySetClones'. -/
def fnKeySetClonesCard : Claim7 := { stood := { row := fnKeySetClonesRow, standIns := [], harness := (true, "251c02830191b69c66a3a26f09bc9b049fb30c1fd4b1014d75c42ccfcf34a855"), looks := true }, kinds := [], alts := [], laidByText := true, laidKinds := [.sentinel], laidTests := true, laidLooks := .later }
def FnKeySetClonesCardSaid : Prop := Claim7.holds Tryz.pinned (.plain (OpenSpec.ofChange fnKeySetClonesSpec)) fnKeySetClonesCard

/-- THE TIED CARD OF 'laws.FnKeySetCleared'. -/
def fnKeySetClearedCard : Claim7 := { stood := { row := fnKeySetClearedRow, standIns := [], harness := (true, "251c02830191b69c66a3a26f09bc9b049fb30c1fd4b1014d75c42ccfcf34a855"), looks := true }, kinds := [], alts := [], laidByText := true, laidKinds := [.sentinel], laidTests := true, laidLooks := .later }
def FnKeySetClearedCardSaid : Prop := Claim7.holds Tryz.pinned (.plain (OpenSpec.ofChange fnKeySetClearedSpec)) fnKeySetClearedCard

/-- THE SECOND FORM's CARD OF 'laws.FnKeySetClones'. -/
def fnKeySetClonesUptoCard : Claim7 := { stood := { row := fnKeySetClonesUptoRow, standIns := [], harness := (true, "251c02830191b69c66a3a26f09bc9b049fb30c1fd4b1014d75c42ccfcf34a855"), looks := true }, kinds := [], alts := [], laidByText := true, laidKinds := [.sentinel], laidTests := true, laidLooks := .later }
def FnKeySetClonesUptoCardSaid : Prop := Claim7.holds Tryz.pinned (.plain (OpenSpec.upto fnKeySetClonesSpec)) fnKeySetClonesUptoCard

/-- THE SECOND FORM's CARD OF 'laws.FnKeySetCleared'. -/
def fnKeySetClearedUptoCard : Claim7 := { stood := { row := fnKeySetClearedUptoRow, standIns := [], harness := (true, "251c02830191b69c66a3a26f09bc9b049fb30c1fd4b1014d75c42ccfcf34a855"), looks := true }, kinds := [], alts := [], laidByText := true, laidKinds := [.sentinel], laidTests := true, laidLooks := .later }
def FnKeySetClearedUptoCardSaid : Prop := Claim7.holds Tryz.pinned (.plain (OpenSpec.upto fnKeySetClearedSpec)) fnKeySetClearedUptoCard
end Rows
end Go.Proofs.YtpcbmjphffpplaaGreatDoor
