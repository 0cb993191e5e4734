/-
  Arguments: slices of bytes, small numbers.
-/
import Derived.Test.YtlncbbmmlhammaaShort
namespace Go.Proofs.Ytlncbbmmlhammaa
open Go.RowKit Go.Proofs.YtlncbbmmlhammaaW.PrintWords Go.Lib
set_option linter.unusedVariables false
set_option linter.unusedSimpArgs false
theorem wf_u8 {n : Int} (h : WfI .u8 n) : 0 ≤ n ∧ n < 256 := by
  unfold WfI at h
  simp [Lit.wf, IntKind.min, IntKind.max, IntKind.bits, IntKind.signed] at h
  omega
theorem opens_byte : Opens Try.prog 5 kB AnyOk := Opens.byte Try.underlying5
end Go.Proofs.Ytlncbbmmlhammaa
