-- PRINTED BY print.sh 35421559b90ae4d0a3588c463048766b98c2df88dd9212a6774a882060cdf62d: not written by this session
import Derived.Test.YtlncbbmmlhammaaProg
import Derived.Below
import Derived.Deep.Draws
import Derived.Deep.AppendLies
import Derived.Maps.AppendAt
import Derived.OwnWalk
import Derived.Laws.BytesArg
import Derived.Laws.MakeOwn
import Derived.Laws.OwnMore
import Derived.Deep.OwnRows
import Derived.Tactics
import Derived.Lib.ConvBytes
import Derived.Laws.Slices
import Derived.WalkKit
import Derived.KernelRfl
import Derived.RowKit3
import Derived.Deep.LoopGhost
import Derived.Deep.QuietTactic
import Derived.BigQuiet
import Derived.WideLaws
import Derived.Deep.DeepCutAuto
import Derived.Deep.CutBlock
import Derived.Deep.RegionHeld3
import Derived.Laws.Rows
import Derived.Lib.AppendStr
import Derived.ArgAppend
import Derived.Laws.IdiomCopy
import Derived.OrdersHeld
import Derived.Laws.BitsLemmas
import Derived.RowKit
import Derived.Test.YtlncbbmmlhammaaWWords
import Derived.Test.YtlncbbmmlhammaaWLast
import Derived.Test.YtlncbbmmlhammaaWTab
import Derived.Test.YtlncbbmmlhammaaWFour
import Derived.Test.YtlncbbmmlhammaaWQPut
import Derived.Test.YtlncbbmmlhammaaWApart
import Derived.Test.YtlncbbmmlhammaaWArr
import Derived.Test.YtlncbbmmlhammaaWZeros
import Derived.Test.YtlncbbmmlhammaaWFoot
import Derived.Test.YtlncbbmmlhammaaWKept
import Derived.Test.YtlncbbmmlhammaaWShare
import Derived.Test.YtlncbbmmlhammaaWN
import Derived.Test.YtlncbbmmlhammaaWFootNe
import Derived.Test.YtlncbbmmlhammaaWAt
import Derived.Test.YtlncbbmmlhammaaWEqStruct
import Derived.Test.YtlncbbmmlhammaaWRepsOne
import Derived.Test.YtlncbbmmlhammaaWInv
import Derived.Test.YtlncbbmmlhammaaWInvWords
import Derived.Test.YtlncbbmmlhammaaWGuard
import Derived.Test.YtlncbbmmlhammaaWNEv
import Derived.Test.YtlncbbmmlhammaaWMore
namespace Go.Proofs.Ytlncbbmmlhammaa.PFnPartKind
open Go.RowKit Go.Proofs.YtlncbbmmlhammaaW.PrintWords Go.Proofs.YtlncbbmmlhammaaW.PrintLast Go.Proofs.YtlncbbmmlhammaaW.PrintMore
attribute [local go_sem] max2_int min2_int max_two min_two max_three min_three max_four min_four   -- for this text's walks alone
set_option linter.unusedVariables false
set_option linter.unusedSimpArgs false



def errW : Option Int → Value
  | none => .nilIface
  | some c => .iface 0 (.int .i64 c)
theorem errW_none : errW none = .nilIface := rfl
theorem errW_some (c : Int) : errW (some c) = .iface 0 (.int .i64 c) := rfl

theorem info4 : (Try.prog.info? 4).map (fun i => (i.zero, i.size, i.bytes)) = some (some (.bool false), 1, 1) := by kernel_rfl
-- the values' own types

end Go.Proofs.Ytlncbbmmlhammaa.PFnPartKind
