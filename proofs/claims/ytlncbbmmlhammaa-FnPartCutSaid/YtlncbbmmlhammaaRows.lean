/-
  No cell of these rows narrows 'for every input' (looked for: loops, veiled, ifaces, maps, wideKeys, modest, calm, conditions, laid).
  DERIVED. THE GIVEN ROWS OF THIS SEAT. 9 by the template 'for every input the law returns true; each argument reads behind the call as it read before'; 0 by the template 'total and deterministic' (their statements: YtlncbbmmlhammaaTotals.lean).
  GIVEN WITH THE SEED: the statements are not yours to turn. If you find one false, say at which input.
  Laid BY PROGRAM, IN A SANDBOX (cutbox-rows.mjs): the forced cells as the released guide's own fill.sh prints them over the translation 94affd808a2781b3… (all of the seat's roots in one cut). By AI agents, Wed Nov 11 2026. No macro, syntax, notation, axiom, sorry.
-/
import Derived.Test.YtlncbbmmlhammaaChecked
import GoSem.Claim
import GoSem.ClaimJoined
import GoSem.ClaimMapViews
import Derived.JoinedTies
import Derived.KernelRfl
namespace Go.Proofs.Ytlncbbmmlhammaa
/- THE CELL 'sum', in the pinned program and in every row, IS THE sha256 OF THE DUMP (.gsa) THAT YtlncbbmmlhammaaProg.lean LOADS. Nothing in Lean hashes anything: it is a label: what it is worth is what the hold of that sum in a sandbox is worth. -/
noncomputable def Try.pinned : Pinned := { name := "ytlncbbmmlhammaa", sum := "94affd808a2781b3b9fc31722520a21562f3d208382aba3bf8800c4946d3d003", checked := Try.checked }
namespace Rows
def none {H : Type} : Left H := { results := [], args := [] }

/-- 'laws.FnPartCut': WHATEVER THE INPUT: true; the input reads as it did. -/
def fnPartCutSpec : ChangeSpec := { name := "fnPartCut", fn := fun _ => fun
  | [d] => { results := [.lit (.bool true)], args := [d] }
  | _ => none }
def fnPartCutRow : OpenClaim := { program := "ytlncbbmmlhammaa", sum := "94affd808a2781b3b9fc31722520a21562f3d208382aba3bf8800c4946d3d003", func := "pub-bullarium/laws.FnPartCut", spec := "fnPartCut", unfollowed := true, recurses := true, apart := false }
def FnPartCutSaid : Prop := fnPartCutRow.holds Try.pinned (OpenSpec.ofChange fnPartCutSpec)

/-- ITS FALSE NEIGHBOUR: 'it returns false'. Refute it at one input. -/
def fnPartCutWrong : ChangeSpec := { name := "fnPartCut", fn := fun _ => fun
  | [d] => { results := [.lit (.bool false)], args := [d] }
  | _ => none }
def FnPartCutWrongFalsely : Prop := fnPartCutRow.holds Try.pinned (OpenSpec.ofChange fnPartCutWrong)

/-- 'laws.FnPartPadding': WHATEVER THE INPUT: true; the input reads as it did. -/
def fnPartPaddingSpec : ChangeSpec := { name := "fnPartPadding", fn := fun _ => fun
  | [d1, d2] => { results := [.lit (.bool true)], args := [d1, d2] }
  | _ => none }
def fnPartPaddingRow : OpenClaim := { program := "ytlncbbmmlhammaa", sum := "94affd808a2781b3b9fc31722520a21562f3d208382aba3bf8800c4946d3d003", func := "pub-bullarium/laws.FnPartPadding", spec := "fnPartPadding", unfollowed := true, recurses := true, apart := false }
def FnPartPaddingSaid : Prop := fnPartPaddingRow.holds Try.pinned (OpenSpec.ofChange fnPartPaddingSpec)

/-- ITS FALSE NEIGHBOUR: 'it returns false'. Refute it at one input. -/
def fnPartPaddingWrong : ChangeSpec := { name := "fnPartPadding", fn := fun _ => fun
  | [d1, d2] => { results := [.lit (.bool false)], args := [d1, d2] }
  | _ => none }
def FnPartPaddingWrongFalsely : Prop := fnPartPaddingRow.holds Try.pinned (OpenSpec.ofChange fnPartPaddingWrong)

/-- 'laws.FnPartGuess': WHATEVER THE INPUT: true; the input reads as it did. -/
def fnPartGuessSpec : ChangeSpec := { name := "fnPartGuess", fn := fun _ => fun
  | [d1, d2] => { results := [.lit (.bool true)], args := [d1, d2] }
  | _ => none }
def fnPartGuessRow : OpenClaim := { program := "ytlncbbmmlhammaa", sum := "94affd808a2781b3b9fc31722520a21562f3d208382aba3bf8800c4946d3d003", func := "pub-bullarium/laws.FnPartGuess", spec := "fnPartGuess", unfollowed := true, recurses := true, apart := false }
def FnPartGuessSaid : Prop := fnPartGuessRow.holds Try.pinned (OpenSpec.ofChange fnPartGuessSpec)

/-- ITS FALSE NEIGHBOUR: 'it returns false'. Refute it at one input. -/
def fnPartGuessWrong : ChangeSpec := { name := "fnPartGuess", fn := fun _ => fun
  | [d1, d2] => { results := [.lit (.bool false)], args := [d1, d2] }
  | _ => none }
def FnPartGuessWrongFalsely : Prop := fnPartGuessRow.holds Try.pinned (OpenSpec.ofChange fnPartGuessWrong)

/-- 'laws.FnPartLengths': WHATEVER THE INPUT: true; the input reads as it did. -/
def fnPartLengthsSpec : ChangeSpec := { name := "fnPartLengths", fn := fun _ => fun
  | [d] => { results := [.lit (.bool true)], args := [d] }
  | _ => none }
def fnPartLengthsRow : OpenClaim := { program := "ytlncbbmmlhammaa", sum := "94affd808a2781b3b9fc31722520a21562f3d208382aba3bf8800c4946d3d003", func := "pub-bullarium/laws.FnPartLengths", spec := "fnPartLengths", unfollowed := true, recurses := true, apart := false }
def FnPartLengthsSaid : Prop := fnPartLengthsRow.holds Try.pinned (OpenSpec.ofChange fnPartLengthsSpec)

/-- ITS FALSE NEIGHBOUR: 'it returns false'. Refute it at one input. -/
def fnPartLengthsWrong : ChangeSpec := { name := "fnPartLengths", fn := fun _ => fun
  | [d] => { results := [.lit (.bool false)], args := [d] }
  | _ => none }
def FnPartLengthsWrongFalsely : Prop := fnPartLengthsRow.holds Try.pinned (OpenSpec.ofChange fnPartLengthsWrong)

/-- 'laws.FnPartEncode': WHATEVER THE INPUT: true; the input reads as it did. -/
def fnPartEncodeSpec : ChangeSpec := { name := "fnPartEncode", fn := fun _ => fun
  | [d1, d2] => { results := [.lit (.bool true)], args := [d1, d2] }
  | _ => none }
def fnPartEncodeRow : OpenClaim := { program := "ytlncbbmmlhammaa", sum := "94affd808a2781b3b9fc31722520a21562f3d208382aba3bf8800c4946d3d003", func := "pub-bullarium/laws.FnPartEncode", spec := "fnPartEncode", unfollowed := true, recurses := true, apart := false }
def FnPartEncodeSaid : Prop := fnPartEncodeRow.holds Try.pinned (OpenSpec.ofChange fnPartEncodeSpec)

/-- ITS FALSE NEIGHBOUR: 'it returns false'. Refute it at one input. -/
def fnPartEncodeWrong : ChangeSpec := { name := "fnPartEncode", fn := fun _ => fun
  | [d1, d2] => { results := [.lit (.bool false)], args := [d1, d2] }
  | _ => none }
def FnPartEncodeWrongFalsely : Prop := fnPartEncodeRow.holds Try.pinned (OpenSpec.ofChange fnPartEncodeWrong)

/-- 'laws.FnPartNumbers': WHATEVER THE INPUT: true; the input reads as it did. -/
def fnPartNumbersSpec : ChangeSpec := { name := "fnPartNumbers", fn := fun _ => fun
  | [d1, d2] => { results := [.lit (.bool true)], args := [d1, d2] }
  | _ => none }
def fnPartNumbersRow : OpenClaim := { program := "ytlncbbmmlhammaa", sum := "94affd808a2781b3b9fc31722520a21562f3d208382aba3bf8800c4946d3d003", func := "pub-bullarium/laws.FnPartNumbers", spec := "fnPartNumbers", unfollowed := true, recurses := true, named := ["encoding/binary.BigEndian"], apart := false }
def FnPartNumbersSaid : Prop := fnPartNumbersRow.holds Try.pinned (OpenSpec.ofChange fnPartNumbersSpec)

/-- ITS FALSE NEIGHBOUR: 'it returns false'. Refute it at one input. -/
def fnPartNumbersWrong : ChangeSpec := { name := "fnPartNumbers", fn := fun _ => fun
  | [d1, d2] => { results := [.lit (.bool false)], args := [d1, d2] }
  | _ => none }
def FnPartNumbersWrongFalsely : Prop := fnPartNumbersRow.holds Try.pinned (OpenSpec.ofChange fnPartNumbersWrong)

/-- 'laws.FnPartRoads': WHATEVER THE INPUT: true; the input reads as it did. -/
def fnPartRoadsSpec : ChangeSpec := { name := "fnPartRoads", fn := fun _ => fun
  | [d1, d2, d3] => { results := [.lit (.bool true)], args := [d1, d2, d3] }
  | _ => none }
def fnPartRoadsRow : OpenClaim := { program := "ytlncbbmmlhammaa", sum := "94affd808a2781b3b9fc31722520a21562f3d208382aba3bf8800c4946d3d003", func := "pub-bullarium/laws.FnPartRoads", spec := "fnPartRoads", unfollowed := true, recurses := true, apart := false }
def FnPartRoadsSaid : Prop := fnPartRoadsRow.holds Try.pinned (OpenSpec.ofChange fnPartRoadsSpec)

/-- ITS FALSE NEIGHBOUR: 'it returns false'. Refute it at one input. -/
def fnPartRoadsWrong : ChangeSpec := { name := "fnPartRoads", fn := fun _ => fun
  | [d1, d2, d3] => { results := [.lit (.bool false)], args := [d1, d2, d3] }
  | _ => none }
def FnPartRoadsWrongFalsely : Prop := fnPartRoadsRow.holds Try.pinned (OpenSpec.ofChange fnPartRoadsWrong)

/-- 'laws.FnPartKind': WHATEVER THE INPUT: true; the input reads as it did. -/
def fnPartKindSpec : ChangeSpec := { name := "fnPartKind", fn := fun _ => fun
  | [d] => { results := [.lit (.bool true)], args := [d] }
  | _ => none }
def fnPartKindRow : OpenClaim := { program := "ytlncbbmmlhammaa", sum := "94affd808a2781b3b9fc31722520a21562f3d208382aba3bf8800c4946d3d003", func := "pub-bullarium/laws.FnPartKind", spec := "fnPartKind", unfollowed := true, recurses := true, apart := false }
def FnPartKindSaid : Prop := fnPartKindRow.holds Try.pinned (OpenSpec.ofChange fnPartKindSpec)

/-- ITS FALSE NEIGHBOUR: 'it returns false'. Refute it at one input. -/
def fnPartKindWrong : ChangeSpec := { name := "fnPartKind", fn := fun _ => fun
  | [d] => { results := [.lit (.bool false)], args := [d] }
  | _ => none }
def FnPartKindWrongFalsely : Prop := fnPartKindRow.holds Try.pinned (OpenSpec.ofChange fnPartKindWrong)

/-- 'laws.FnPartKinds': WHATEVER THE INPUT: true; the input reads as it did. -/
def fnPartKindsSpec : ChangeSpec := { name := "fnPartKinds", fn := fun _ => fun
  | [d] => { results := [.lit (.bool true)], args := [d] }
  | _ => none }
def fnPartKindsRow : OpenClaim := { program := "ytlncbbmmlhammaa", sum := "94affd808a2781b3b9fc31722520a21562f3d208382aba3bf8800c4946d3d003", func := "pub-bullarium/laws.FnPartKinds", spec := "fnPartKinds", unfollowed := true, recurses := true, apart := false }
def FnPartKindsSaid : Prop := fnPartKindsRow.holds Try.pinned (OpenSpec.ofChange fnPartKindsSpec)

/-- ITS FALSE NEIGHBOUR: 'it returns false'. Refute it at one input. -/
def fnPartKindsWrong : ChangeSpec := { name := "fnPartKinds", fn := fun _ => fun
  | [d] => { results := [.lit (.bool false)], args := [d] }
  | _ => none }
def FnPartKindsWrongFalsely : Prop := fnPartKindsRow.holds Try.pinned (OpenSpec.ofChange fnPartKindsWrong)

/- THE SECOND FORM. 'bulk': how many values and letters a reading holds, each counted each time it is reached (what is shared counts as often as it is met; a slice's spare places count too). A statement '..UptoSaid' is the law's where the arguments, and the package variables that the reading takes, are together of bulk at most 1048576: NARROWER than '..Said'. Prove '..Said' where nothing that the law and all that it calls make is longer than what came in: it says more and counts as full. Else prove '..UptoSaid'. A law counts once. -/
mutual
def uptoBulk {H : Type} : DataW H → Nat
  | .lit (.string bytes) => bytes.length + 1
  | .lit _ => 1
  | .nil => 1
  | .ptr d => uptoBulk d + 1
  | .slice elems spare => uptoBulkAll elems + uptoBulkAll spare + 1
  | .agg parts => uptoBulkAll parts + 1
  | .iface _ d => uptoBulk d + 1
  | .map entries => uptoBulkEntries entries + 1
  | .held _ => 1
def uptoBulkAll {H : Type} : List (DataW H) → Nat
  | [] => 0
  | d :: r => uptoBulk d + uptoBulkAll r
def uptoBulkEntries {H : Type} : List (Lit × DataW H) → Nat
  | [] => 0
  | x :: r => uptoBulkEntry x + uptoBulkEntries r
def uptoBulkEntry {H : Type} : Lit × DataW H → Nat
  | (.string bytes, d) => bytes.length + uptoBulk d + 1
  | (_, d) => uptoBulk d + 1
 end
def uptoSmall : (H : Type) → List (DataW H) → Bool := fun _ ds => decide (uptoBulkAll ds ≤ 1048576)
def OpenSpec.upto (s : _root_.Go.ChangeSpec) : _root_.Go.OpenSpec := { _root_.Go.OpenSpec.ofChange s with cond := some uptoSmall }

/-- 'laws.FnPartCut', WHERE WHAT IT READS IS OF BULK AT MOST 1048576: true; the input reads as it did. -/
def fnPartCutUptoRow : OpenClaim := { program := "ytlncbbmmlhammaa", sum := "94affd808a2781b3b9fc31722520a21562f3d208382aba3bf8800c4946d3d003", func := "pub-bullarium/laws.FnPartCut", spec := "fnPartCut", unfollowed := true, recurses := true, apart := false, narrowed := true }
def FnPartCutUptoSaid : Prop := fnPartCutUptoRow.holds Try.pinned (OpenSpec.upto fnPartCutSpec)

/-- 'laws.FnPartPadding', WHERE WHAT IT READS IS OF BULK AT MOST 1048576: true; the input reads as it did. -/
def fnPartPaddingUptoRow : OpenClaim := { program := "ytlncbbmmlhammaa", sum := "94affd808a2781b3b9fc31722520a21562f3d208382aba3bf8800c4946d3d003", func := "pub-bullarium/laws.FnPartPadding", spec := "fnPartPadding", unfollowed := true, recurses := true, apart := false, narrowed := true }
def FnPartPaddingUptoSaid : Prop := fnPartPaddingUptoRow.holds Try.pinned (OpenSpec.upto fnPartPaddingSpec)

/-- 'laws.FnPartGuess', WHERE WHAT IT READS IS OF BULK AT MOST 1048576: true; the input reads as it did. -/
def fnPartGuessUptoRow : OpenClaim := { program := "ytlncbbmmlhammaa", sum := "94affd808a2781b3b9fc31722520a21562f3d208382aba3bf8800c4946d3d003", func := "pub-bullarium/laws.FnPartGuess", spec := "fnPartGuess", unfollowed := true, recurses := true, apart := false, narrowed := true }
def FnPartGuessUptoSaid : Prop := fnPartGuessUptoRow.holds Try.pinned (OpenSpec.upto fnPartGuessSpec)

/-- 'laws.FnPartLengths', WHERE WHAT IT READS IS OF BULK AT MOST 1048576: true; the input reads as it did. -/
def fnPartLengthsUptoRow : OpenClaim := { program := "ytlncbbmmlhammaa", sum := "94affd808a2781b3b9fc31722520a21562f3d208382aba3bf8800c4946d3d003", func := "pub-bullarium/laws.FnPartLengths", spec := "fnPartLengths", unfollowed := true, recurses := true, apart := false, narrowed := true }
def FnPartLengthsUptoSaid : Prop := fnPartLengthsUptoRow.holds Try.pinned (OpenSpec.upto fnPartLengthsSpec)

/-- 'laws.FnPartEncode', WHERE WHAT IT READS IS OF BULK AT MOST 1048576: true; the input reads as it did. -/
def fnPartEncodeUptoRow : OpenClaim := { program := "ytlncbbmmlhammaa", sum := "94affd808a2781b3b9fc31722520a21562f3d208382aba3bf8800c4946d3d003", func := "pub-bullarium/laws.FnPartEncode", spec := "fnPartEncode", unfollowed := true, recurses := true, apart := false, narrowed := true }
def FnPartEncodeUptoSaid : Prop := fnPartEncodeUptoRow.holds Try.pinned (OpenSpec.upto fnPartEncodeSpec)

/-- 'laws.FnPartNumbers', WHERE WHAT IT READS IS OF BULK AT MOST 1048576: true; the input reads as it did. -/
def fnPartNumbersUptoRow : OpenClaim := { program := "ytlncbbmmlhammaa", sum := "94affd808a2781b3b9fc31722520a21562f3d208382aba3bf8800c4946d3d003", func := "pub-bullarium/laws.FnPartNumbers", spec := "fnPartNumbers", unfollowed := true, recurses := true, named := ["encoding/binary.BigEndian"], apart := false, narrowed := true }
def FnPartNumbersUptoSaid : Prop := fnPartNumbersUptoRow.holds Try.pinned (OpenSpec.upto fnPartNumbersSpec)

/-- 'laws.FnPartRoads', WHERE WHAT IT READS IS OF BULK AT MOST 1048576: true; the input reads as it did. -/
def fnPartRoadsUptoRow : OpenClaim := { program := "ytlncbbmmlhammaa", sum := "94affd808a2781b3b9fc31722520a21562f3d208382aba3bf8800c4946d3d003", func := "pub-bullarium/laws.FnPartRoads", spec := "fnPartRoads", unfollowed := true, recurses := true, apart := false, narrowed := true }
def FnPartRoadsUptoSaid : Prop := fnPartRoadsUptoRow.holds Try.pinned (OpenSpec.upto fnPartRoadsSpec)

/-- 'laws.FnPartKind', WHERE WHAT IT READS IS OF BULK AT MOST 1048576: true; the input reads as it did. -/
def fnPartKindUptoRow : OpenClaim := { program := "ytlncbbmmlhammaa", sum := "94affd808a2781b3b9fc31722520a21562f3d208382aba3bf8800c4946d3d003", func := "pub-bullarium/laws.FnPartKind", spec := "fnPartKind", unfollowed := true, recurses := true, apart := false, narrowed := true }
def FnPartKindUptoSaid : Prop := fnPartKindUptoRow.holds Try.pinned (OpenSpec.upto fnPartKindSpec)

/-- 'laws.FnPartKinds', WHERE WHAT IT READS IS OF BULK AT MOST 1048576: true; the input reads as it did. -/
def fnPartKindsUptoRow : OpenClaim := { program := "ytlncbbmmlhammaa", sum := "94affd808a2781b3b9fc31722520a21562f3d208382aba3bf8800c4946d3d003", func := "pub-bullarium/laws.FnPartKinds", spec := "fnPartKinds", unfollowed := true, recurses := true, apart := false, narrowed := true }
def FnPartKindsUptoSaid : Prop := fnPartKindsUptoRow.holds Try.pinned (OpenSpec.upto fnPartKindsSpec)

end Rows
end Go.Proofs.Ytlncbbmmlhammaa
