/-
  DERIVED. GIVEN WITH THE SEED: THE CARDS: each row of YtdldblfklalaeaaGreatDoorRows.lean that lists a variable, with what it lists TIED to the program's text (the seventh form; the later family's looks); each row that meets fmt, with fmt's text TOLD by the authors' own Lean function (tested against real Go, not proved from fmt's source: count such statements apart). THE CARD IS WHAT COUNTS. Prove the row's statement (the work); the ties are given (YtdldblfklalaeaaGreatDoorTie.lean); close each card by the builder's one call (the guide's Derived/Test/ToyasCard.lean, 'card_holds'). Laid BY PROGRAM, IN A SANDBOX (cutbox-door.mjs). By AI agents, Wed Nov 11 2026. No macro, syntax, notation, axiom, sorry.
-/
import Derived.Test.YtdldblfklalaeaaGreatDoorRows
import GoSem.ClaimSeven
namespace Go.Proofs.YtdldblfklalaeaaGreatDoor
namespace Rows

/-- THE TIED CARD OF 'laws.FnHeadKeyTrees'. -/
def fnHeadKeyTreesCard : Claim7 := { stood := { row := fnHeadKeyTreesRow, standIns := [], harness := (true, "9fd86e7931431c0b2c8e9680646159cbd0e35e9bd3fd85bbe486d774a7de2c64"), looks := true }, kinds := [], alts := [], laidByText := true, laidKinds := [.data, .data, .data, .data, .sentinel, .sentinel, .pinned], laidTests := true, laidLooks := .later }
def FnHeadKeyTreesCardSaid : Prop := Claim7.holds Tryz.pinned (.plain (OpenSpec.ofChange fnHeadKeyTreesSpec)) fnHeadKeyTreesCard

/-- THE TIED CARD OF 'laws.FnHeadCut'. -/
def fnHeadCutCard : Claim7 := { stood := { row := fnHeadCutRow, standIns := [], harness := (true, "9fd86e7931431c0b2c8e9680646159cbd0e35e9bd3fd85bbe486d774a7de2c64"), looks := true }, kinds := [], alts := [], laidByText := true, laidKinds := [.data, .data, .data, .data, .sentinel, .sentinel, .pinned], laidTests := true, laidLooks := .later }
def FnHeadCutCardSaid : Prop := Claim7.holds Tryz.pinned (.plain (OpenSpec.ofChange fnHeadCutSpec)) fnHeadCutCard

/-- THE TIED CARD OF 'laws.FnJoinHeader'. -/
def fnJoinHeaderCard : Claim7 := { stood := { row := fnJoinHeaderRow, standIns := [], harness := (true, "9fd86e7931431c0b2c8e9680646159cbd0e35e9bd3fd85bbe486d774a7de2c64"), looks := true }, kinds := [], alts := [], laidByText := true, laidKinds := [.data, .data, .data, .sentinel, .sentinel], laidTests := true, laidLooks := .later }
def FnJoinHeaderCardSaid : Prop := Claim7.holds Tryz.pinned (.plain (OpenSpec.ofChange fnJoinHeaderSpec)) fnJoinHeaderCard

/-- THE TIED CARD OF 'laws.FnJoinBoth'. -/
def fnJoinBothCard : Claim7 := { stood := { row := fnJoinBothRow, standIns := [], harness := (true, "9fd86e7931431c0b2c8e9680646159cbd0e35e9bd3fd85bbe486d774a7de2c64"), looks := true }, kinds := [], alts := [], laidByText := true, laidKinds := [.data, .data, .data, .sentinel, .sentinel, .sentinel], laidTests := true, laidLooks := .later }
def FnJoinBothCardSaid : Prop := Claim7.holds Tryz.pinned (.plain (OpenSpec.ofChange fnJoinBothSpec)) fnJoinBothCard

/-- THE TIED CARD OF 'laws.FnJoinToken'. -/
def fnJoinTokenCard : Claim7 := { stood := { row := fnJoinTokenRow, standIns := [], harness := (true, "9fd86e7931431c0b2c8e9680646159cbd0e35e9bd3fd85bbe486d774a7de2c64"), looks := true }, kinds := [], alts := [], laidByText := true, laidKinds := [.data, .data, .data, .sentinel, .sentinel, .sentinel], laidTests := true, laidLooks := .later }
def FnJoinTokenCardSaid : Prop := Claim7.holds Tryz.pinned (.plain (OpenSpec.ofChange fnJoinTokenSpec)) fnJoinTokenCard

/-- THE TIED CARD OF 'laws.FnHeadCompact'. -/
def fnHeadCompactCard : Claim7 := { stood := { row := fnHeadCompactRow, standIns := [], harness := (true, "9fd86e7931431c0b2c8e9680646159cbd0e35e9bd3fd85bbe486d774a7de2c64"), looks := true }, kinds := [], alts := [], laidByText := true, laidKinds := [.data, .data, .data, .data, .sentinel, .sentinel, .pinned], laidTests := true, laidLooks := .later }
def FnHeadCompactCardSaid : Prop := Claim7.holds Tryz.pinned (.plain (OpenSpec.ofChange fnHeadCompactSpec)) fnHeadCompactCard

/-- THE SECOND FORM's CARD OF 'laws.FnHeadKeyTrees'. -/
def fnHeadKeyTreesUptoCard : Claim7 := { stood := { row := fnHeadKeyTreesUptoRow, standIns := [], harness := (true, "9fd86e7931431c0b2c8e9680646159cbd0e35e9bd3fd85bbe486d774a7de2c64"), looks := true }, kinds := [], alts := [], laidByText := true, laidKinds := [.data, .data, .data, .data, .sentinel, .sentinel, .pinned], laidTests := true, laidLooks := .later }
def FnHeadKeyTreesUptoCardSaid : Prop := Claim7.holds Tryz.pinned (.plain (OpenSpec.upto fnHeadKeyTreesSpec)) fnHeadKeyTreesUptoCard

/-- THE SECOND FORM's CARD OF 'laws.FnHeadCut'. -/
def fnHeadCutUptoCard : Claim7 := { stood := { row := fnHeadCutUptoRow, standIns := [], harness := (true, "9fd86e7931431c0b2c8e9680646159cbd0e35e9bd3fd85bbe486d774a7de2c64"), looks := true }, kinds := [], alts := [], laidByText := true, laidKinds := [.data, .data, .data, .data, .sentinel, .sentinel, .pinned], laidTests := true, laidLooks := .later }
def FnHeadCutUptoCardSaid : Prop := Claim7.holds Tryz.pinned (.plain (OpenSpec.upto fnHeadCutSpec)) fnHeadCutUptoCard

/-- THE SECOND FORM's CARD OF 'laws.FnJoinHeader'. -/
def fnJoinHeaderUptoCard : Claim7 := { stood := { row := fnJoinHeaderUptoRow, standIns := [], harness := (true, "9fd86e7931431c0b2c8e9680646159cbd0e35e9bd3fd85bbe486d774a7de2c64"), looks := true }, kinds := [], alts := [], laidByText := true, laidKinds := [.data, .data, .data, .sentinel, .sentinel], laidTests := true, laidLooks := .later }
def FnJoinHeaderUptoCardSaid : Prop := Claim7.holds Tryz.pinned (.plain (OpenSpec.upto fnJoinHeaderSpec)) fnJoinHeaderUptoCard

/-- THE SECOND FORM's CARD OF 'laws.FnJoinBoth'. -/
def fnJoinBothUptoCard : Claim7 := { stood := { row := fnJoinBothUptoRow, standIns := [], harness := (true, "9fd86e7931431c0b2c8e9680646159cbd0e35e9bd3fd85bbe486d774a7de2c64"), looks := true }, kinds := [], alts := [], laidByText := true, laidKinds := [.data, .data, .data, .sentinel, .sentinel, .sentinel], laidTests := true, laidLooks := .later }
def FnJoinBothUptoCardSaid : Prop := Claim7.holds Tryz.pinned (.plain (OpenSpec.upto fnJoinBothSpec)) fnJoinBothUptoCard

/-- THE SECOND FORM's CARD OF 'laws.FnJoinToken'. -/
def fnJoinTokenUptoCard : Claim7 := { stood := { row := fnJoinTokenUptoRow, standIns := [], harness := (true, "9fd86e7931431c0b2c8e9680646159cbd0e35e9bd3fd85bbe486d774a7de2c64"), looks := true }, kinds := [], alts := [], laidByText := true, laidKinds := [.data, .data, .data, .sentinel, .sentinel, .sentinel], laidTests := true, laidLooks := .later }
def FnJoinTokenUptoCardSaid : Prop := Claim7.holds Tryz.pinned (.plain (OpenSpec.upto fnJoinTokenSpec)) fnJoinTokenUptoCard

/-- THE SECOND FORM's CARD OF 'laws.FnHeadCompact'. -/
def fnHeadCompactUptoCard : Claim7 := { stood := { row := fnHeadCompactUptoRow, standIns := [], harness := (true, "9fd86e7931431c0b2c8e9680646159cbd0e35e9bd3fd85bbe486d774a7de2c64"), looks := true }, kinds := [], alts := [], laidByText := true, laidKinds := [.data, .data, .data, .data, .sentinel, .sentinel, .pinned], laidTests := true, laidLooks := .later }
def FnHeadCompactUptoCardSaid : Prop := Claim7.holds Tryz.pinned (.plain (OpenSpec.upto fnHeadCompactSpec)) fnHeadCompactUptoCard
end Rows
end Go.Proofs.YtdldblfklalaeaaGreatDoor
