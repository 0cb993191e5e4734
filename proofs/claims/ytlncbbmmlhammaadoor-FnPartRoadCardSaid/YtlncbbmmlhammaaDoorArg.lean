/-
  Arguments: slices of bytes, small numbers.
-/
import Derived.Test.YtlncbbmmlhammaaDoorShort
namespace Go.Proofs.YtlncbbmmlhammaaDoor
open Go.RowKit Go.Proofs.YtlncbbmmlhammaaDoorW.PrintWords Go.Lib
set_option linter.unusedVariables false
set_option linter.unusedSimpArgs false
theorem wf_u8 {n : Int} (h : WfI .u8 n) : 0 ≤ n ∧ n < 256 := by
  unfold WfI at h
  simp [Lit.wf, IntKind.min, IntKind.max, IntKind.bits, IntKind.signed] at h
  omega
theorem opens_byte : Opens Tryd.prog 5 kB AnyOk := Opens.byte Tryd.underlying5
end Go.Proofs.YtlncbbmmlhammaaDoor
