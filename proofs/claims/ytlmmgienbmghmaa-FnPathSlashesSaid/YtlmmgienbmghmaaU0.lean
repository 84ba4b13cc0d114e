-- written by a program of this session (wip/tools/pp.py)
import Derived.Test.YtlmmgienbmghmaaProg
import Derived.Below
import Derived.Deep.Draws
import Derived.Deep.AppendLies
import Derived.Maps.AppendAt
import Derived.OwnWalk
import Derived.Laws.BytesArg
import Derived.Laws.MakeOwn
import Derived.Laws.OwnMore
import Derived.Deep.OwnRows
import Derived.Tactics
import Derived.Lib.ConvBytes
import Derived.Laws.Slices
import Derived.WalkKit
import Derived.KernelRfl
import Derived.RowKit3
import Derived.Deep.LoopGhost
import Derived.Deep.QuietTactic
import Derived.BigQuiet
import Derived.WideLaws
import Derived.Deep.DeepCutAuto
import Derived.Deep.CutBlock
import Derived.Deep.RegionHeld3
import Derived.Laws.Rows
import Derived.Lib.AppendStr
import Derived.ArgAppend
import Derived.Laws.IdiomCopy
import Derived.OrdersHeld
import Derived.Laws.BitsLemmas
import Derived.RowKit
import Derived.Test.YtlmmgienbmghmaaGiv
import Derived.Test.YtlmmgienbmghmaaWWords
import Derived.Test.YtlmmgienbmghmaaWLast
import Derived.Test.YtlmmgienbmghmaaWTab
import Derived.Test.YtlmmgienbmghmaaWFour
import Derived.Test.YtlmmgienbmghmaaWQPut
import Derived.Test.YtlmmgienbmghmaaWApart
import Derived.Test.YtlmmgienbmghmaaWArr
import Derived.Test.YtlmmgienbmghmaaWZeros
import Derived.Test.YtlmmgienbmghmaaWFoot
import Derived.Test.YtlmmgienbmghmaaWKept
import Derived.Test.YtlmmgienbmghmaaWShare
import Derived.Test.YtlmmgienbmghmaaWN
import Derived.Test.YtlmmgienbmghmaaWFootNe
import Derived.Test.YtlmmgienbmghmaaWAt
import Derived.Test.YtlmmgienbmghmaaWEqStruct
import Derived.Test.YtlmmgienbmghmaaWRepsOne
import Derived.Test.YtlmmgienbmghmaaWInv
import Derived.Test.YtlmmgienbmghmaaWInvWords
import Derived.Test.YtlmmgienbmghmaaWGuard
import Derived.Test.YtlmmgienbmghmaaWNEv
import Derived.Test.YtlmmgienbmghmaaWMore
namespace Go.Proofs.Ytlmmgienbmghmaa.U
open Go.RowKit Go.Proofs.YtlmmgienbmghmaaW.PrintWords Go.Proofs.YtlmmgienbmghmaaW.PrintLast Go.Proofs.Ytlmmgienbmghmaa.Giv Go.Proofs.YtlmmgienbmghmaaW.PrintMore
attribute [local go_sem] max2_int min2_int max_two min_two max_three min_three max_four min_four   -- for this text's walks alone
set_option linter.unusedVariables false
set_option linter.unusedSimpArgs false



def errW : Option Int → Value
  | none => .nilIface
  | some c => .iface 0 (.int .i64 c)
theorem errW_none : errW none = .nilIface := rfl
theorem errW_some (c : Int) : errW (some c) = .iface 0 (.int .i64 c) := rfl

theorem info5 : (Try.prog.info? 5).map (fun i => (i.zero, i.size, i.bytes)) = some (some (.int .u8 0), 1, 1) := by kernel_rfl
-- the values' own types

end Go.Proofs.Ytlmmgienbmghmaa.U
