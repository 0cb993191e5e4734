/-
  impl.HeadList: its contract; what the reader says of a list.
-/
import Derived.Test.YtdldblfklalaeaaGreatDoorLs
import Derived.Test.YtdldblfklalaeaaGreatDoorFl
namespace Go.Proofs.YtdldblfklalaeaaGreatDoor
open Go.RowKit Go.Proofs.YtdldblfklalaeaaGreatDoorW.PrintWords Go.ChangeShapes Go.WideShapes
set_option linter.unusedVariables false
set_option linter.unusedSimpArgs false
set_option maxRecDepth 100000
end Go.Proofs.YtdldblfklalaeaaGreatDoor
