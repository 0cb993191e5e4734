/-
  No cell of these rows narrows 'for every input' (looked for: loops, veiled, ifaces, maps, wideKeys, modest, calm, conditions, laid).
  DERIVED. THE GIVEN ROWS OF THIS SEAT. 6 by the template 'for every input the law returns true; each argument reads behind the call as it read before'; 0 by the template 'total and deterministic' (their statements: YthbdlghkfibbaaaTotals.lean).
  GIVEN WITH THE SEED: the statements are not yours to turn. If you find one false, say at which input.
  Laid BY PROGRAM, IN A SANDBOX (cutbox-rows.mjs): the forced cells as the released guide's own fill.sh prints them over the translation 59ff835b8cee2332… (all of the seat's roots in one cut). By AI agents, Wed Nov 11 2026. No macro, syntax, notation, axiom, sorry.
-/
import Derived.Test.YthbdlghkfibbaaaChecked
import GoSem.Claim
import GoSem.ClaimJoined
import GoSem.ClaimMapViews
import Derived.JoinedTies
import Derived.KernelRfl
namespace Go.Proofs.Ythbdlghkfibbaaa
/- THE CELL 'sum', in the pinned program and in every row, IS THE sha256 OF THE DUMP (.gsa) THAT YthbdlghkfibbaaaProg.lean LOADS. Nothing in Lean hashes anything: it is a label: what it is worth is what the hold of that sum in a sandbox is worth. -/
noncomputable def Try.pinned : Pinned := { name := "ythbdlghkfibbaaa", sum := "59ff835b8cee23321b75d2f71e75d34a830fa1cc4f3483eaef885808e0374450", checked := Try.checked }
namespace Rows
def none {H : Type} : Left H := { results := [], args := [] }

/-- 'laws.FnWrapKey': WHATEVER THE INPUT: true; the input reads as it did. -/
def fnWrapKeySpec : ChangeSpec := { name := "fnWrapKey", fn := fun _ => fun
  | [d1, d2] => { results := [.lit (.bool true)], args := [d1, d2] }
  | _ => none }
def fnWrapKeyRow : OpenClaim := { program := "ythbdlghkfibbaaa", sum := "59ff835b8cee23321b75d2f71e75d34a830fa1cc4f3483eaef885808e0374450", func := "pub-bullarium/laws.FnWrapKey", spec := "fnWrapKey", inPlace := ["crypto/internal/constanttime.boolToUint8"], unfollowed := true, recurses := true, named := ["encoding/binary.BigEndian"], apart := false }
def FnWrapKeySaid : Prop := fnWrapKeyRow.holds Try.pinned (OpenSpec.ofChange fnWrapKeySpec)

/-- ITS FALSE NEIGHBOUR: 'it returns false'. Refute it at one input. -/
def fnWrapKeyWrong : ChangeSpec := { name := "fnWrapKey", fn := fun _ => fun
  | [d1, d2] => { results := [.lit (.bool false)], args := [d1, d2] }
  | _ => none }
def FnWrapKeyWrongFalsely : Prop := fnWrapKeyRow.holds Try.pinned (OpenSpec.ofChange fnWrapKeyWrong)

/-- 'laws.FnWrapMany': WHATEVER THE INPUT: true; the input reads as it did. -/
def fnWrapManySpec : ChangeSpec := { name := "fnWrapMany", fn := fun _ => fun
  | [d1, d2] => { results := [.lit (.bool true)], args := [d1, d2] }
  | _ => none }
def fnWrapManyRow : OpenClaim := { program := "ythbdlghkfibbaaa", sum := "59ff835b8cee23321b75d2f71e75d34a830fa1cc4f3483eaef885808e0374450", func := "pub-bullarium/laws.FnWrapMany", spec := "fnWrapMany", inPlace := ["crypto/internal/constanttime.boolToUint8"], unfollowed := true, recurses := true, named := ["encoding/binary.BigEndian"], apart := false }
def FnWrapManySaid : Prop := fnWrapManyRow.holds Try.pinned (OpenSpec.ofChange fnWrapManySpec)

/-- ITS FALSE NEIGHBOUR: 'it returns false'. Refute it at one input. -/
def fnWrapManyWrong : ChangeSpec := { name := "fnWrapMany", fn := fun _ => fun
  | [d1, d2] => { results := [.lit (.bool false)], args := [d1, d2] }
  | _ => none }
def FnWrapManyWrongFalsely : Prop := fnWrapManyRow.holds Try.pinned (OpenSpec.ofChange fnWrapManyWrong)

/-- 'laws.FnWrapTurned': WHATEVER THE INPUT: true; the input reads as it did. -/
def fnWrapTurnedSpec : ChangeSpec := { name := "fnWrapTurned", fn := fun _ => fun
  | [d1, d2, d3, d4, d5] => { results := [.lit (.bool true)], args := [d1, d2, d3, d4, d5] }
  | _ => none }
def fnWrapTurnedRow : OpenClaim := { program := "ythbdlghkfibbaaa", sum := "59ff835b8cee23321b75d2f71e75d34a830fa1cc4f3483eaef885808e0374450", func := "pub-bullarium/laws.FnWrapTurned", spec := "fnWrapTurned", inPlace := ["crypto/internal/constanttime.boolToUint8"], unfollowed := true, recurses := true, named := ["encoding/binary.BigEndian"], apart := false }
def FnWrapTurnedSaid : Prop := fnWrapTurnedRow.holds Try.pinned (OpenSpec.ofChange fnWrapTurnedSpec)

/-- ITS FALSE NEIGHBOUR: 'it returns false'. Refute it at one input. -/
def fnWrapTurnedWrong : ChangeSpec := { name := "fnWrapTurned", fn := fun _ => fun
  | [d1, d2, d3, d4, d5] => { results := [.lit (.bool false)], args := [d1, d2, d3, d4, d5] }
  | _ => none }
def FnWrapTurnedWrongFalsely : Prop := fnWrapTurnedRow.holds Try.pinned (OpenSpec.ofChange fnWrapTurnedWrong)

/-- 'laws.FnWrapBlocks': WHATEVER THE INPUT: true; the input reads as it did. -/
def fnWrapBlocksSpec : ChangeSpec := { name := "fnWrapBlocks", fn := fun _ => fun
  | [d1, d2] => { results := [.lit (.bool true)], args := [d1, d2] }
  | _ => none }
def fnWrapBlocksRow : OpenClaim := { program := "ythbdlghkfibbaaa", sum := "59ff835b8cee23321b75d2f71e75d34a830fa1cc4f3483eaef885808e0374450", func := "pub-bullarium/laws.FnWrapBlocks", spec := "fnWrapBlocks", unfollowed := true, recurses := true, named := ["encoding/binary.BigEndian"], apart := false }
def FnWrapBlocksSaid : Prop := fnWrapBlocksRow.holds Try.pinned (OpenSpec.ofChange fnWrapBlocksSpec)

/-- ITS FALSE NEIGHBOUR: 'it returns false'. Refute it at one input. -/
def fnWrapBlocksWrong : ChangeSpec := { name := "fnWrapBlocks", fn := fun _ => fun
  | [d1, d2] => { results := [.lit (.bool false)], args := [d1, d2] }
  | _ => none }
def FnWrapBlocksWrongFalsely : Prop := fnWrapBlocksRow.holds Try.pinned (OpenSpec.ofChange fnWrapBlocksWrong)

/-- 'laws.FnWrapDerived': WHATEVER THE INPUT: true; the input reads as it did. -/
def fnWrapDerivedSpec : ChangeSpec := { name := "fnWrapDerived", fn := fun _ => fun
  | [d1, d2] => { results := [.lit (.bool true)], args := [d1, d2] }
  | _ => none }
def fnWrapDerivedRow : OpenClaim := { program := "ythbdlghkfibbaaa", sum := "59ff835b8cee23321b75d2f71e75d34a830fa1cc4f3483eaef885808e0374450", func := "pub-bullarium/laws.FnWrapDerived", spec := "fnWrapDerived", unfollowed := true, recurses := true, named := ["encoding/binary.BigEndian"], apart := false }
def FnWrapDerivedSaid : Prop := fnWrapDerivedRow.holds Try.pinned (OpenSpec.ofChange fnWrapDerivedSpec)

/-- ITS FALSE NEIGHBOUR: 'it returns false'. Refute it at one input. -/
def fnWrapDerivedWrong : ChangeSpec := { name := "fnWrapDerived", fn := fun _ => fun
  | [d1, d2] => { results := [.lit (.bool false)], args := [d1, d2] }
  | _ => none }
def FnWrapDerivedWrongFalsely : Prop := fnWrapDerivedRow.holds Try.pinned (OpenSpec.ofChange fnWrapDerivedWrong)

/-- 'laws.FnWrapLengths': WHATEVER THE INPUT: true; the input reads as it did. -/
def fnWrapLengthsSpec : ChangeSpec := { name := "fnWrapLengths", fn := fun _ => fun
  | [d1, d2, d3] => { results := [.lit (.bool true)], args := [d1, d2, d3] }
  | _ => none }
def fnWrapLengthsRow : OpenClaim := { program := "ythbdlghkfibbaaa", sum := "59ff835b8cee23321b75d2f71e75d34a830fa1cc4f3483eaef885808e0374450", func := "pub-bullarium/laws.FnWrapLengths", spec := "fnWrapLengths", unfollowed := true, recurses := true, named := ["encoding/binary.BigEndian"], apart := false }
def FnWrapLengthsSaid : Prop := fnWrapLengthsRow.holds Try.pinned (OpenSpec.ofChange fnWrapLengthsSpec)

/-- ITS FALSE NEIGHBOUR: 'it returns false'. Refute it at one input. -/
def fnWrapLengthsWrong : ChangeSpec := { name := "fnWrapLengths", fn := fun _ => fun
  | [d1, d2, d3] => { results := [.lit (.bool false)], args := [d1, d2, d3] }
  | _ => none }
def FnWrapLengthsWrongFalsely : Prop := fnWrapLengthsRow.holds Try.pinned (OpenSpec.ofChange fnWrapLengthsWrong)

/- THE SECOND FORM. 'bulk': how many values and letters a reading holds, each counted each time it is reached (what is shared counts as often as it is met; a slice's spare places count too). A statement '..UptoSaid' is the law's where the arguments, and the package variables that the reading takes, are together of bulk at most 1048576: NARROWER than '..Said'. Prove '..Said' where nothing that the law and all that it calls make is longer than what came in: it says more and counts as full. Else prove '..UptoSaid'. A law counts once. -/
mutual
def uptoBulk {H : Type} : DataW H → Nat
  | .lit (.string bytes) => bytes.length + 1
  | .lit _ => 1
  | .nil => 1
  | .ptr d => uptoBulk d + 1
  | .slice elems spare => uptoBulkAll elems + uptoBulkAll spare + 1
  | .agg parts => uptoBulkAll parts + 1
  | .iface _ d => uptoBulk d + 1
  | .map entries => uptoBulkEntries entries + 1
  | .held _ => 1
def uptoBulkAll {H : Type} : List (DataW H) → Nat
  | [] => 0
  | d :: r => uptoBulk d + uptoBulkAll r
def uptoBulkEntries {H : Type} : List (Lit × DataW H) → Nat
  | [] => 0
  | x :: r => uptoBulkEntry x + uptoBulkEntries r
def uptoBulkEntry {H : Type} : Lit × DataW H → Nat
  | (.string bytes, d) => bytes.length + uptoBulk d + 1
  | (_, d) => uptoBulk d + 1
 end
def uptoSmall : (H : Type) → List (DataW H) → Bool := fun _ ds => decide (uptoBulkAll ds ≤ 1048576)
def OpenSpec.upto (s : _root_.Go.ChangeSpec) : _root_.Go.OpenSpec := { _root_.Go.OpenSpec.ofChange s with cond := some uptoSmall }

/-- 'laws.FnWrapKey', WHERE WHAT IT READS IS OF BULK AT MOST 1048576: true; the input reads as it did. -/
def fnWrapKeyUptoRow : OpenClaim := { program := "ythbdlghkfibbaaa", sum := "59ff835b8cee23321b75d2f71e75d34a830fa1cc4f3483eaef885808e0374450", func := "pub-bullarium/laws.FnWrapKey", spec := "fnWrapKey", inPlace := ["crypto/internal/constanttime.boolToUint8"], unfollowed := true, recurses := true, named := ["encoding/binary.BigEndian"], apart := false, narrowed := true }
def FnWrapKeyUptoSaid : Prop := fnWrapKeyUptoRow.holds Try.pinned (OpenSpec.upto fnWrapKeySpec)

/-- 'laws.FnWrapMany', WHERE WHAT IT READS IS OF BULK AT MOST 1048576: true; the input reads as it did. -/
def fnWrapManyUptoRow : OpenClaim := { program := "ythbdlghkfibbaaa", sum := "59ff835b8cee23321b75d2f71e75d34a830fa1cc4f3483eaef885808e0374450", func := "pub-bullarium/laws.FnWrapMany", spec := "fnWrapMany", inPlace := ["crypto/internal/constanttime.boolToUint8"], unfollowed := true, recurses := true, named := ["encoding/binary.BigEndian"], apart := false, narrowed := true }
def FnWrapManyUptoSaid : Prop := fnWrapManyUptoRow.holds Try.pinned (OpenSpec.upto fnWrapManySpec)

/-- 'laws.FnWrapTurned', WHERE WHAT IT READS IS OF BULK AT MOST 1048576: true; the input reads as it did. -/
def fnWrapTurnedUptoRow : OpenClaim := { program := "ythbdlghkfibbaaa", sum := "59ff835b8cee23321b75d2f71e75d34a830fa1cc4f3483eaef885808e0374450", func := "pub-bullarium/laws.FnWrapTurned", spec := "fnWrapTurned", inPlace := ["crypto/internal/constanttime.boolToUint8"], unfollowed := true, recurses := true, named := ["encoding/binary.BigEndian"], apart := false, narrowed := true }
def FnWrapTurnedUptoSaid : Prop := fnWrapTurnedUptoRow.holds Try.pinned (OpenSpec.upto fnWrapTurnedSpec)

/-- 'laws.FnWrapBlocks', WHERE WHAT IT READS IS OF BULK AT MOST 1048576: true; the input reads as it did. -/
def fnWrapBlocksUptoRow : OpenClaim := { program := "ythbdlghkfibbaaa", sum := "59ff835b8cee23321b75d2f71e75d34a830fa1cc4f3483eaef885808e0374450", func := "pub-bullarium/laws.FnWrapBlocks", spec := "fnWrapBlocks", unfollowed := true, recurses := true, named := ["encoding/binary.BigEndian"], apart := false, narrowed := true }
def FnWrapBlocksUptoSaid : Prop := fnWrapBlocksUptoRow.holds Try.pinned (OpenSpec.upto fnWrapBlocksSpec)

/-- 'laws.FnWrapDerived', WHERE WHAT IT READS IS OF BULK AT MOST 1048576: true; the input reads as it did. -/
def fnWrapDerivedUptoRow : OpenClaim := { program := "ythbdlghkfibbaaa", sum := "59ff835b8cee23321b75d2f71e75d34a830fa1cc4f3483eaef885808e0374450", func := "pub-bullarium/laws.FnWrapDerived", spec := "fnWrapDerived", unfollowed := true, recurses := true, named := ["encoding/binary.BigEndian"], apart := false, narrowed := true }
def FnWrapDerivedUptoSaid : Prop := fnWrapDerivedUptoRow.holds Try.pinned (OpenSpec.upto fnWrapDerivedSpec)

/-- 'laws.FnWrapLengths', WHERE WHAT IT READS IS OF BULK AT MOST 1048576: true; the input reads as it did. -/
def fnWrapLengthsUptoRow : OpenClaim := { program := "ythbdlghkfibbaaa", sum := "59ff835b8cee23321b75d2f71e75d34a830fa1cc4f3483eaef885808e0374450", func := "pub-bullarium/laws.FnWrapLengths", spec := "fnWrapLengths", unfollowed := true, recurses := true, named := ["encoding/binary.BigEndian"], apart := false, narrowed := true }
def FnWrapLengthsUptoSaid : Prop := fnWrapLengthsUptoRow.holds Try.pinned (OpenSpec.upto fnWrapLengthsSpec)

end Rows
end Go.Proofs.Ythbdlghkfibbaaa
