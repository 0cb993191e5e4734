/-
  No cell of these rows narrows 'for every input' (looked for: loops, veiled, ifaces, maps, wideKeys, modest, calm, conditions, laid).
  DERIVED. THE GIVEN ROWS OF THIS SEAT. 4 by the template 'for every input the law returns true; each argument reads behind the call as it read before'; 0 by the template 'total and deterministic' (their statements: YtocjolboglcamaaTotals.lean).
  GIVEN WITH THE SEED: the statements are not yours to turn. If you find one false, say at which input.
  Laid BY PROGRAM, IN A SANDBOX (cutbox-rows.mjs): the forced cells as the released guide's own fill.sh prints them over the translation 547c0b5640b33ea7… (all of the seat's roots in one cut). By AI agents, Wed Nov 11 2026. No macro, syntax, notation, axiom, sorry.
-/
import Derived.Test.YtocjolboglcamaaChecked
import GoSem.Claim
import GoSem.ClaimJoined
import GoSem.ClaimMapViews
import Derived.JoinedTies
import Derived.KernelRfl
namespace Go.Proofs.Ytocjolboglcamaa
/- THE CELL 'sum', in the pinned program and in every row, IS THE sha256 OF THE DUMP (.gsa) THAT YtocjolboglcamaaProg.lean LOADS. Nothing in Lean hashes anything: it is a label: what it is worth is what the hold of that sum in a sandbox is worth. -/
noncomputable def Try.pinned : Pinned := { name := "ytocjolboglcamaa", sum := "547c0b5640b33ea74c17ceafa650470fcac12be5e68b15938dbf34d633eec7e9", checked := Try.checked }
namespace Rows
def none {H : Type} : Left H := { results := [], args := [] }

/-- 'laws.FnOptionApart': WHATEVER THE INPUT: true; the input reads as it did. -/
def fnOptionApartSpec : ChangeSpec := { name := "fnOptionApart", fn := fun _ => fun
  | [d1, d2] => { results := [.lit (.bool true)], args := [d1, d2] }
  | _ => none }
def fnOptionApartRow : OpenClaim := { program := "ytocjolboglcamaa", sum := "547c0b5640b33ea74c17ceafa650470fcac12be5e68b15938dbf34d633eec7e9", func := "pub-bullarium/laws.FnOptionApart", spec := "fnOptionApart", apart := false }
def FnOptionApartSaid : Prop := fnOptionApartRow.holds Try.pinned (OpenSpec.ofChange fnOptionApartSpec)

/-- ITS FALSE NEIGHBOUR: 'it returns false'. Refute it at one input. -/
def fnOptionApartWrong : ChangeSpec := { name := "fnOptionApart", fn := fun _ => fun
  | [d1, d2] => { results := [.lit (.bool false)], args := [d1, d2] }
  | _ => none }
def FnOptionApartWrongFalsely : Prop := fnOptionApartRow.holds Try.pinned (OpenSpec.ofChange fnOptionApartWrong)

/-- 'laws.FnOptionSteps': WHATEVER THE INPUT: true; the input reads as it did. -/
def fnOptionStepsSpec : ChangeSpec := { name := "fnOptionSteps", fn := fun _ => fun
  | [d] => { results := [.lit (.bool true)], args := [d] }
  | _ => none }
def fnOptionStepsRow : OpenClaim := { program := "ytocjolboglcamaa", sum := "547c0b5640b33ea74c17ceafa650470fcac12be5e68b15938dbf34d633eec7e9", func := "pub-bullarium/laws.FnOptionSteps", spec := "fnOptionSteps", apart := false }
def FnOptionStepsSaid : Prop := fnOptionStepsRow.holds Try.pinned (OpenSpec.ofChange fnOptionStepsSpec)

/-- ITS FALSE NEIGHBOUR: 'it returns false'. Refute it at one input. -/
def fnOptionStepsWrong : ChangeSpec := { name := "fnOptionSteps", fn := fun _ => fun
  | [d] => { results := [.lit (.bool false)], args := [d] }
  | _ => none }
def FnOptionStepsWrongFalsely : Prop := fnOptionStepsRow.holds Try.pinned (OpenSpec.ofChange fnOptionStepsWrong)

/-- 'laws.FnWrapPad': WHATEVER THE INPUT: true; the input reads as it did. -/
def fnWrapPadSpec : ChangeSpec := { name := "fnWrapPad", fn := fun _ => fun
  | [d1, d2] => { results := [.lit (.bool true)], args := [d1, d2] }
  | _ => none }
def fnWrapPadRow : OpenClaim := { program := "ytocjolboglcamaa", sum := "547c0b5640b33ea74c17ceafa650470fcac12be5e68b15938dbf34d633eec7e9", func := "pub-bullarium/laws.FnWrapPad", spec := "fnWrapPad", apart := false }
def FnWrapPadSaid : Prop := fnWrapPadRow.holds Try.pinned (OpenSpec.ofChange fnWrapPadSpec)

/-- ITS FALSE NEIGHBOUR: 'it returns false'. Refute it at one input. -/
def fnWrapPadWrong : ChangeSpec := { name := "fnWrapPad", fn := fun _ => fun
  | [d1, d2] => { results := [.lit (.bool false)], args := [d1, d2] }
  | _ => none }
def FnWrapPadWrongFalsely : Prop := fnWrapPadRow.holds Try.pinned (OpenSpec.ofChange fnWrapPadWrong)

/-- 'laws.FnWrapTail': WHATEVER THE INPUT: true; the input reads as it did. -/
def fnWrapTailSpec : ChangeSpec := { name := "fnWrapTail", fn := fun _ => fun
  | [d1, d2, d3] => { results := [.lit (.bool true)], args := [d1, d2, d3] }
  | _ => none }
def fnWrapTailRow : OpenClaim := { program := "ytocjolboglcamaa", sum := "547c0b5640b33ea74c17ceafa650470fcac12be5e68b15938dbf34d633eec7e9", func := "pub-bullarium/laws.FnWrapTail", spec := "fnWrapTail", apart := false }
def FnWrapTailSaid : Prop := fnWrapTailRow.holds Try.pinned (OpenSpec.ofChange fnWrapTailSpec)

/-- ITS FALSE NEIGHBOUR: 'it returns false'. Refute it at one input. -/
def fnWrapTailWrong : ChangeSpec := { name := "fnWrapTail", fn := fun _ => fun
  | [d1, d2, d3] => { results := [.lit (.bool false)], args := [d1, d2, d3] }
  | _ => none }
def FnWrapTailWrongFalsely : Prop := fnWrapTailRow.holds Try.pinned (OpenSpec.ofChange fnWrapTailWrong)

/- THE SECOND FORM. 'bulk': how many values and letters a reading holds, each counted each time it is reached (what is shared counts as often as it is met; a slice's spare places count too). A statement '..UptoSaid' is the law's where the arguments, and the package variables that the reading takes, are together of bulk at most 1048576: NARROWER than '..Said'. Prove '..Said' where nothing that the law and all that it calls make is longer than what came in: it says more and counts as full. Else prove '..UptoSaid'. A law counts once. -/
mutual
def uptoBulk {H : Type} : DataW H → Nat
  | .lit (.string bytes) => bytes.length + 1
  | .lit _ => 1
  | .nil => 1
  | .ptr d => uptoBulk d + 1
  | .slice elems spare => uptoBulkAll elems + uptoBulkAll spare + 1
  | .agg parts => uptoBulkAll parts + 1
  | .iface _ d => uptoBulk d + 1
  | .map entries => uptoBulkEntries entries + 1
  | .held _ => 1
def uptoBulkAll {H : Type} : List (DataW H) → Nat
  | [] => 0
  | d :: r => uptoBulk d + uptoBulkAll r
def uptoBulkEntries {H : Type} : List (Lit × DataW H) → Nat
  | [] => 0
  | x :: r => uptoBulkEntry x + uptoBulkEntries r
def uptoBulkEntry {H : Type} : Lit × DataW H → Nat
  | (.string bytes, d) => bytes.length + uptoBulk d + 1
  | (_, d) => uptoBulk d + 1
 end
def uptoSmall : (H : Type) → List (DataW H) → Bool := fun _ ds => decide (uptoBulkAll ds ≤ 1048576)
def OpenSpec.upto (s : _root_.Go.ChangeSpec) : _root_.Go.OpenSpec := { _root_.Go.OpenSpec.ofChange s with cond := some uptoSmall }

/-- 'laws.FnOptionApart', WHERE WHAT IT READS IS OF BULK AT MOST 1048576: true; the input reads as it did. -/
def fnOptionApartUptoRow : OpenClaim := { program := "ytocjolboglcamaa", sum := "547c0b5640b33ea74c17ceafa650470fcac12be5e68b15938dbf34d633eec7e9", func := "pub-bullarium/laws.FnOptionApart", spec := "fnOptionApart", apart := false, narrowed := true }
def FnOptionApartUptoSaid : Prop := fnOptionApartUptoRow.holds Try.pinned (OpenSpec.upto fnOptionApartSpec)

/-- 'laws.FnOptionSteps', WHERE WHAT IT READS IS OF BULK AT MOST 1048576: true; the input reads as it did. -/
def fnOptionStepsUptoRow : OpenClaim := { program := "ytocjolboglcamaa", sum := "547c0b5640b33ea74c17ceafa650470fcac12be5e68b15938dbf34d633eec7e9", func := "pub-bullarium/laws.FnOptionSteps", spec := "fnOptionSteps", apart := false, narrowed := true }
def FnOptionStepsUptoSaid : Prop := fnOptionStepsUptoRow.holds Try.pinned (OpenSpec.upto fnOptionStepsSpec)

/-- 'laws.FnWrapPad', WHERE WHAT IT READS IS OF BULK AT MOST 1048576: true; the input reads as it did. -/
def fnWrapPadUptoRow : OpenClaim := { program := "ytocjolboglcamaa", sum := "547c0b5640b33ea74c17ceafa650470fcac12be5e68b15938dbf34d633eec7e9", func := "pub-bullarium/laws.FnWrapPad", spec := "fnWrapPad", apart := false, narrowed := true }
def FnWrapPadUptoSaid : Prop := fnWrapPadUptoRow.holds Try.pinned (OpenSpec.upto fnWrapPadSpec)

/-- 'laws.FnWrapTail', WHERE WHAT IT READS IS OF BULK AT MOST 1048576: true; the input reads as it did. -/
def fnWrapTailUptoRow : OpenClaim := { program := "ytocjolboglcamaa", sum := "547c0b5640b33ea74c17ceafa650470fcac12be5e68b15938dbf34d633eec7e9", func := "pub-bullarium/laws.FnWrapTail", spec := "fnWrapTail", apart := false, narrowed := true }
def FnWrapTailUptoSaid : Prop := fnWrapTailUptoRow.holds Try.pinned (OpenSpec.upto fnWrapTailSpec)

end Rows
end Go.Proofs.Ytocjolboglcamaa
