-- written by a program of this session (wip/tools/pp.py)
import Derived.Test.YtokojamaigebaaaDoorProg
import Derived.Below
import Derived.Deep.Draws
import Derived.Deep.AppendLies
import Derived.Maps.AppendAt
import Derived.OwnWalk
import Derived.Laws.BytesArg
import Derived.Laws.MakeOwn
import Derived.Laws.OwnMore
import Derived.Deep.OwnRows
import Derived.Tactics
import Derived.Lib.ConvBytes
import Derived.Laws.Slices
import Derived.WalkKit
import Derived.KernelRfl
import Derived.RowKit3
import Derived.Deep.LoopGhost
import Derived.Deep.QuietTactic
import Derived.BigQuiet
import Derived.WideLaws
import Derived.Deep.DeepCutAuto
import Derived.Deep.CutBlock
import Derived.Deep.RegionHeld3
import Derived.Laws.Rows
import Derived.Lib.AppendStr
import Derived.ArgAppend
import Derived.Laws.IdiomCopy
import Derived.OrdersHeld
import Derived.Laws.BitsLemmas
import Derived.RowKit
import Derived.Test.YtokojamaigebaaaDoorSq
import Derived.Test.YtokojamaigebaaaDoorGivIdx
import Derived.Test.YtokojamaigebaaaDoorWWords
import Derived.Test.YtokojamaigebaaaDoorWLast
import Derived.Test.YtokojamaigebaaaDoorWTab
import Derived.Test.YtokojamaigebaaaDoorWQPut
import Derived.Test.YtokojamaigebaaaDoorWApart
import Derived.Test.YtokojamaigebaaaDoorWArr
import Derived.Test.YtokojamaigebaaaDoorWZeros
import Derived.Test.YtokojamaigebaaaDoorWFoot
import Derived.Test.YtokojamaigebaaaDoorWKept
import Derived.Test.YtokojamaigebaaaDoorWShare
import Derived.Test.YtokojamaigebaaaDoorWN
import Derived.Test.YtokojamaigebaaaDoorWRepsOne
import Derived.Test.YtokojamaigebaaaDoorWGuard
import Derived.Test.YtokojamaigebaaaDoorWNEv
import Derived.Test.YtokojamaigebaaaDoorWMore
namespace Go.Proofs.YtokojamaigebaaaDoor.U
open Go.RowKit Go.Proofs.YtokojamaigebaaaDoorW.PrintWords Go.Proofs.YtokojamaigebaaaDoorW.PrintLast Go.Proofs.YtokojamaigebaaaDoor.GivIdx Go.Proofs.YtokojamaigebaaaDoorW.PrintMore
attribute [local go_sem] max2_int min2_int max_two min_two max_three min_three max_four min_four   -- for this text's walks alone
set_option linter.unusedVariables false
set_option linter.unusedSimpArgs false




theorem info5 : (Tryd.prog.info? 5).map (fun i => (i.zero, i.size, i.bytes)) = some (some (.int .u8 0), 1, 1) := by kernel_rfl
theorem info9 : (Tryd.prog.info? 9).map (fun i => (i.zero, i.size, i.bytes)) = some (some (.string ⟨#[]⟩), 1, 16) := by kernel_rfl
-- the values' own types

end Go.Proofs.YtokojamaigebaaaDoor.U
