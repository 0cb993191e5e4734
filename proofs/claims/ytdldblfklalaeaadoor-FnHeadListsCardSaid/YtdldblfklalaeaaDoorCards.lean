/-
  DERIVED. GIVEN WITH THE SEED: THE CARDS: each row of YtdldblfklalaeaaDoorRows.lean that lists a variable, with what it lists TIED to the program's text (the seventh form; the later family's looks); each row that meets fmt, with fmt's text TOLD by the authors' own Lean function (tested against real Go, not proved from fmt's source: count such statements apart). THE CARD IS WHAT COUNTS. Prove the row's statement (the work); the ties are given (YtdldblfklalaeaaDoorTie.lean); close each card by the builder's one call (the guide's Derived/Test/ToyasCard.lean, 'card_holds'). Laid BY PROGRAM, IN A SANDBOX (cutbox-door.mjs). By AI agents, Wed Nov 11 2026. No macro, syntax, notation, axiom, sorry.
-/
import Derived.Test.YtdldblfklalaeaaDoorRows
import GoSem.ClaimSeven
namespace Go.Proofs.YtdldblfklalaeaaDoor
namespace Rows

/-- THE TIED CARD OF 'laws.FnHeadCharacter'. -/
def fnHeadCharacterCard : Claim7 := { stood := { row := fnHeadCharacterRow, standIns := [], harness := (true, "eb3a5e29c8da3ffdedcc5dab58dac71ac96c2cea831483c21e297ae36e8fc924"), looks := true }, kinds := [], alts := [], laidByText := true, laidKinds := [.data, .data, .data, .sentinel, .sentinel], laidTests := true, laidLooks := .later }
def FnHeadCharacterCardSaid : Prop := Claim7.holds Tryd.pinned (.plain (OpenSpec.ofChange fnHeadCharacterSpec)) fnHeadCharacterCard

/-- THE TIED CARD OF 'laws.FnHeadBools'. -/
def fnHeadBoolsCard : Claim7 := { stood := { row := fnHeadBoolsRow, standIns := [], harness := (true, "eb3a5e29c8da3ffdedcc5dab58dac71ac96c2cea831483c21e297ae36e8fc924"), looks := true }, kinds := [], alts := [], laidByText := true, laidKinds := [.data, .data, .data, .data, .sentinel, .sentinel, .pinned], laidTests := true, laidLooks := .later }
def FnHeadBoolsCardSaid : Prop := Claim7.holds Tryd.pinned (.plain (OpenSpec.ofChange fnHeadBoolsSpec)) fnHeadBoolsCard

/-- THE TIED CARD OF 'laws.FnHeadLists'. -/
def fnHeadListsCard : Claim7 := { stood := { row := fnHeadListsRow, standIns := [], harness := (true, "eb3a5e29c8da3ffdedcc5dab58dac71ac96c2cea831483c21e297ae36e8fc924"), looks := true }, kinds := [], alts := [], laidByText := true, laidKinds := [.data, .data, .data, .data, .sentinel, .sentinel, .pinned], laidTests := true, laidLooks := .later }
def FnHeadListsCardSaid : Prop := Claim7.holds Tryd.pinned (.plain (OpenSpec.ofChange fnHeadListsSpec)) fnHeadListsCard

/-- THE SECOND FORM's CARD OF 'laws.FnHeadCharacter'. -/
def fnHeadCharacterUptoCard : Claim7 := { stood := { row := fnHeadCharacterUptoRow, standIns := [], harness := (true, "eb3a5e29c8da3ffdedcc5dab58dac71ac96c2cea831483c21e297ae36e8fc924"), looks := true }, kinds := [], alts := [], laidByText := true, laidKinds := [.data, .data, .data, .sentinel, .sentinel], laidTests := true, laidLooks := .later }
def FnHeadCharacterUptoCardSaid : Prop := Claim7.holds Tryd.pinned (.plain (OpenSpec.upto fnHeadCharacterSpec)) fnHeadCharacterUptoCard

/-- THE SECOND FORM's CARD OF 'laws.FnHeadBools'. -/
def fnHeadBoolsUptoCard : Claim7 := { stood := { row := fnHeadBoolsUptoRow, standIns := [], harness := (true, "eb3a5e29c8da3ffdedcc5dab58dac71ac96c2cea831483c21e297ae36e8fc924"), looks := true }, kinds := [], alts := [], laidByText := true, laidKinds := [.data, .data, .data, .data, .sentinel, .sentinel, .pinned], laidTests := true, laidLooks := .later }
def FnHeadBoolsUptoCardSaid : Prop := Claim7.holds Tryd.pinned (.plain (OpenSpec.upto fnHeadBoolsSpec)) fnHeadBoolsUptoCard

/-- THE SECOND FORM's CARD OF 'laws.FnHeadLists'. -/
def fnHeadListsUptoCard : Claim7 := { stood := { row := fnHeadListsUptoRow, standIns := [], harness := (true, "eb3a5e29c8da3ffdedcc5dab58dac71ac96c2cea831483c21e297ae36e8fc924"), looks := true }, kinds := [], alts := [], laidByText := true, laidKinds := [.data, .data, .data, .data, .sentinel, .sentinel, .pinned], laidTests := true, laidLooks := .later }
def FnHeadListsUptoCardSaid : Prop := Claim7.holds Tryd.pinned (.plain (OpenSpec.upto fnHeadListsSpec)) fnHeadListsUptoCard
end Rows
end Go.Proofs.YtdldblfklalaeaaDoor
