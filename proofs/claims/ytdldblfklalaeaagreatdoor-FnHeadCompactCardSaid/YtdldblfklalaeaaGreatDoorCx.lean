/-
  bytes.LastIndexByte; the readers of a header that is no header: their contracts.
-/
import Derived.Test.YtdldblfklalaeaaGreatDoorLl
import Derived.Test.YtdldblfklalaeaaGreatDoorRe
import Derived.Test.YtdldblfklalaeaaGreatDoorQk
namespace Go.Proofs.YtdldblfklalaeaaGreatDoor
open Go.RowKit Go.Proofs.YtdldblfklalaeaaGreatDoorW.PrintWords Go.ChangeShapes Go.WideShapes
set_option linter.unusedVariables false
set_option linter.unusedSimpArgs false
set_option maxRecDepth 100000
end Go.Proofs.YtdldblfklalaeaaGreatDoor
