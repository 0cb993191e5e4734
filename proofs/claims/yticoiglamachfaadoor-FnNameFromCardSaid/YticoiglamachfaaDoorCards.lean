/-
  DERIVED. GIVEN WITH THE SEED: THE CARDS: each row of YticoiglamachfaaDoorRows.lean that lists a variable, with what it lists TIED to the program's text (the seventh form; the later family's looks); each row that meets fmt, with fmt's text TOLD by the authors' own Lean function (tested against real Go, not proved from fmt's source: count such statements apart). THE CARD IS WHAT COUNTS. Prove the row's statement (the work); the ties are given (YticoiglamachfaaDoorTie.lean); close each card by the builder's one call (the guide's Derived/Test/ToyasCard.lean, 'card_holds'). Laid BY PROGRAM, IN A SANDBOX (cutbox-door.mjs). By AI agents, Wed Nov 11 2026. No macro, syntax, notation, axiom, sorry.
-/
import Derived.Test.YticoiglamachfaaDoorRows
import GoSem.ClaimSeven
namespace Go.Proofs.YticoiglamachfaaDoor
namespace Rows

/-- THE TIED CARD OF 'laws.FnNameFrom'. -/
def fnNameFromCard : Claim7 := { stood := { row := fnNameFromRow, standIns := [], harness := (true, "5a46e7c3376f4ec8fee5851e3737e4720c1dc4d6030915da31b2d29972dcf797"), looks := true }, kinds := [], alts := [], laidByText := true, laidKinds := [.sentinel], laidTests := true, laidLooks := .later }
def FnNameFromCardSaid : Prop := Claim7.holds Tryd.pinned (.plain (OpenSpec.ofChange fnNameFromSpec)) fnNameFromCard

/-- THE SECOND FORM's CARD OF 'laws.FnNameFrom'. -/
def fnNameFromUptoCard : Claim7 := { stood := { row := fnNameFromUptoRow, standIns := [], harness := (true, "5a46e7c3376f4ec8fee5851e3737e4720c1dc4d6030915da31b2d29972dcf797"), looks := true }, kinds := [], alts := [], laidByText := true, laidKinds := [.sentinel], laidTests := true, laidLooks := .later }
def FnNameFromUptoCardSaid : Prop := Claim7.holds Tryd.pinned (.plain (OpenSpec.upto fnNameFromSpec)) fnNameFromUptoCard
end Rows
end Go.Proofs.YticoiglamachfaaDoor
