/-
  DERIVED. GIVEN WITH THE SEED: THE CARDS: each row of YtlncbbmmlhammaaDoorRows.lean that lists a variable, with what it lists TIED to the program's text (the seventh form; the later family's looks); each row that meets fmt, with fmt's text TOLD by the authors' own Lean function (tested against real Go, not proved from fmt's source: count such statements apart). THE CARD IS WHAT COUNTS. Prove the row's statement (the work); the ties are given (YtlncbbmmlhammaaDoorTie.lean); close each card by the builder's one call (the guide's Derived/Test/ToyasCard.lean, 'card_holds'). Laid BY PROGRAM, IN A SANDBOX (cutbox-door.mjs). By AI agents, Wed Nov 11 2026. No macro, syntax, notation, axiom, sorry.
-/
import Derived.Test.YtlncbbmmlhammaaDoorRows
import GoSem.ClaimSeven
namespace Go.Proofs.YtlncbbmmlhammaaDoor
namespace Rows

/-- THE TIED CARD OF 'laws.FnPartSplit'. -/
def fnPartSplitCard : Claim7 := { stood := { row := fnPartSplitRow, standIns := [], harness := (true, "2d3d343f559e9cebd867be51c61b3f1073ff2cef209923bfe76722e05d367a6a"), looks := false }, kinds := [], alts := [], laidByText := true, laidKinds := [.sentinel], laidTests := true, laidLooks := .later }
def FnPartSplitCardSaid : Prop := Claim7.holds Tryd.pinned (.plain (OpenSpec.ofChange fnPartSplitSpec)) fnPartSplitCard

/-- THE TIED CARD OF 'laws.FnPartRoad'. -/
def fnPartRoadCard : Claim7 := { stood := { row := fnPartRoadRow, standIns := [], harness := (true, "2d3d343f559e9cebd867be51c61b3f1073ff2cef209923bfe76722e05d367a6a"), looks := false }, kinds := [], alts := [], laidByText := true, laidKinds := [.sentinel], laidTests := true, laidLooks := .later }
def FnPartRoadCardSaid : Prop := Claim7.holds Tryd.pinned (.plain (OpenSpec.ofChange fnPartRoadSpec)) fnPartRoadCard

/-- THE SECOND FORM's CARD OF 'laws.FnPartSplit'. -/
def fnPartSplitUptoCard : Claim7 := { stood := { row := fnPartSplitUptoRow, standIns := [], harness := (true, "2d3d343f559e9cebd867be51c61b3f1073ff2cef209923bfe76722e05d367a6a"), looks := false }, kinds := [], alts := [], laidByText := true, laidKinds := [.sentinel], laidTests := true, laidLooks := .later }
def FnPartSplitUptoCardSaid : Prop := Claim7.holds Tryd.pinned (.plain (OpenSpec.upto fnPartSplitSpec)) fnPartSplitUptoCard

/-- THE SECOND FORM's CARD OF 'laws.FnPartRoad'. -/
def fnPartRoadUptoCard : Claim7 := { stood := { row := fnPartRoadUptoRow, standIns := [], harness := (true, "2d3d343f559e9cebd867be51c61b3f1073ff2cef209923bfe76722e05d367a6a"), looks := false }, kinds := [], alts := [], laidByText := true, laidKinds := [.sentinel], laidTests := true, laidLooks := .later }
def FnPartRoadUptoCardSaid : Prop := Claim7.holds Tryd.pinned (.plain (OpenSpec.upto fnPartRoadSpec)) fnPartRoadUptoCard
end Rows
end Go.Proofs.YtlncbbmmlhammaaDoor
