/-
  DERIVED. GIVEN WITH THE SEED: THE CARDS: each row of YtgldcjmdjhghpaaGreatDoorRows.lean that lists a variable, with what it lists TIED to the program's text (the seventh form; the later family's looks); each row that meets fmt, with fmt's text TOLD by the authors' own Lean function (tested against real Go, not proved from fmt's source: count such statements apart). THE CARD IS WHAT COUNTS. Prove the row's statement (the work); the ties are given (YtgldcjmdjhghpaaGreatDoorTie.lean); close each card by the builder's one call (the guide's Derived/Test/ToyasCard.lean, 'card_holds'). Laid BY PROGRAM, IN A SANDBOX (cutbox-door.mjs). By AI agents, Wed Nov 11 2026. No macro, syntax, notation, axiom, sorry.
-/
import Derived.Test.YtgldcjmdjhghpaaGreatDoorRows
import GoSem.ClaimSeven
namespace Go.Proofs.YtgldcjmdjhghpaaGreatDoor
namespace Rows

/-- THE TIED CARD OF 'laws.FnHeadKeyTrees'. -/
def fnHeadKeyTreesCard : Claim7 := { stood := { row := fnHeadKeyTreesRow, standIns := [], harness := (true, "d0abf701181b02e97c55f0378d4b9f029d9f3a9b044136d54cf9a1f202fc86c2"), looks := true }, kinds := [], alts := [], laidByText := true, laidKinds := [.data, .data, .data, .data, .sentinel, .sentinel, .pinned], laidTests := true, laidLooks := .later }
def FnHeadKeyTreesCardSaid : Prop := Claim7.holds Tryz.pinned (.plain (OpenSpec.ofChange fnHeadKeyTreesSpec)) fnHeadKeyTreesCard

/-- THE SECOND FORM's CARD OF 'laws.FnHeadKeyTrees'. -/
def fnHeadKeyTreesUptoCard : Claim7 := { stood := { row := fnHeadKeyTreesUptoRow, standIns := [], harness := (true, "d0abf701181b02e97c55f0378d4b9f029d9f3a9b044136d54cf9a1f202fc86c2"), looks := true }, kinds := [], alts := [], laidByText := true, laidKinds := [.data, .data, .data, .data, .sentinel, .sentinel, .pinned], laidTests := true, laidLooks := .later }
def FnHeadKeyTreesUptoCardSaid : Prop := Claim7.holds Tryz.pinned (.plain (OpenSpec.upto fnHeadKeyTreesSpec)) fnHeadKeyTreesUptoCard
end Rows
end Go.Proofs.YtgldcjmdjhghpaaGreatDoor
