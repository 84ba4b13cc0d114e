import Derived.Test.YtlmmgienbmghmaaDoorProg
import Derived.Below
import Derived.Deep.Draws
import Derived.Deep.AppendLies
import Derived.Maps.AppendAt
import Derived.OwnWalk
import Derived.Laws.BytesArg
import Derived.Laws.MakeOwn
import Derived.Laws.OwnMore
import Derived.Deep.OwnRows
import Derived.Tactics
import Derived.Lib.ConvBytes
import Derived.Laws.Slices
import Derived.WalkKit
import Derived.KernelRfl
import Derived.RowKit3
import Derived.Deep.LoopGhost
import Derived.Deep.QuietTactic
import Derived.BigQuiet
import Derived.WideLaws
import Derived.Deep.DeepCutAuto
import Derived.Deep.CutBlock
import Derived.Deep.RegionHeld3
import Derived.Laws.Rows
import Derived.Lib.AppendStr
import Derived.ArgAppend
import Derived.Laws.IdiomCopy
import Derived.OrdersHeld
import Derived.Laws.BitsLemmas
import Derived.RowKit
import Derived.Test.YtlmmgienbmghmaaDoorSq
import Derived.Test.YtlmmgienbmghmaaDoorM0
import Derived.Test.YtlmmgienbmghmaaDoorVDoor
import Derived.Test.YtlmmgienbmghmaaDoorWWords
import Derived.Test.YtlmmgienbmghmaaDoorWLast
import Derived.Test.YtlmmgienbmghmaaDoorWTab
import Derived.Test.YtlmmgienbmghmaaDoorWQPut
import Derived.Test.YtlmmgienbmghmaaDoorWApart
import Derived.Test.YtlmmgienbmghmaaDoorWArr
import Derived.Test.YtlmmgienbmghmaaDoorWZeros
import Derived.Test.YtlmmgienbmghmaaDoorWFoot
import Derived.Test.YtlmmgienbmghmaaDoorWKept
import Derived.Test.YtlmmgienbmghmaaDoorWShare
import Derived.Test.YtlmmgienbmghmaaDoorWN
import Derived.Test.YtlmmgienbmghmaaDoorWEqStruct
import Derived.Test.YtlmmgienbmghmaaDoorWRepsOne
import Derived.Test.YtlmmgienbmghmaaDoorWGuard
import Derived.Test.YtlmmgienbmghmaaDoorWNEv
import Derived.Test.YtlmmgienbmghmaaDoorWMore
-- written by a program of this session (wip/tools/pp.py)
namespace Go.Proofs.YtlmmgienbmghmaaDoor.X
open Go.RowKit Go.Proofs.YtlmmgienbmghmaaDoorW.PrintWords Go.Proofs.YtlmmgienbmghmaaDoorW.PrintLast Go.Proofs.YtlmmgienbmghmaaDoor.M Go.Proofs.YtlmmgienbmghmaaDoor.UDoor Go.Proofs.YtlmmgienbmghmaaDoor.VDoor Go.Proofs.YtlmmgienbmghmaaDoorW.PrintMore
attribute [local go_sem] max2_int min2_int max_two min_two max_three min_three max_four min_four   -- for this text's walks alone
set_option linter.unusedVariables false
set_option linter.unusedSimpArgs false




theorem info28 : (Tryd.prog.info? 28).map (fun i => (i.zero, i.size, i.bytes)) = some (some (.agg #[(.string ⟨#[]⟩), (.string ⟨#[]⟩), (.string ⟨#[]⟩)]), 3, 48) := by kernel_rfl
-- the values' own types
/-! #### struct type 28 -/
/-! #### struct type 62 -/
end Go.Proofs.YtlmmgienbmghmaaDoor.X

-- written by a program of this session (wip/tools/pp.py)
namespace Go.Proofs.YtlmmgienbmghmaaDoor.X
open Go.RowKit Go.Proofs.YtlmmgienbmghmaaDoorW.PrintWords Go.Proofs.YtlmmgienbmghmaaDoorW.PrintLast Go.Proofs.YtlmmgienbmghmaaDoor.M Go.Proofs.YtlmmgienbmghmaaDoor.UDoor Go.Proofs.YtlmmgienbmghmaaDoor.VDoor Go.Proofs.YtlmmgienbmghmaaDoorW.PrintMore
attribute [local go_sem] max2_int min2_int max_two min_two max_three min_three max_four min_four   -- for this text's walks alone
set_option linter.unusedVariables false
set_option linter.unusedSimpArgs false

theorem eqA28 (d : Nat) (w : World) (x0 y0 : ByteArray) (x1 y1 : ByteArray) (x2 y2 : ByteArray) :
  (Op.equalIn (d + 2) 28 (.agg #[.string x0, .string x1, .string x2]) (.agg #[.string y0, .string y1, .string y2])).run Tryd.prog w = .ok (x0.toList == y0.toList && (x1.toList == y1.toList && (x2.toList == y2.toList))) w := by
 refine eqA_of Tryd.underlying28 (by kernel_rfl) ?_
 refine eqf_cons (by rfl) (by go_simp; rfl) (by go_simp; rfl) (by go_simp) ?_
 refine eqf_cons (by rfl) (by go_simp; rfl) (by go_simp; rfl) (by go_simp) ?_
 exact eqf_last (by rfl) (by go_simp; rfl) (by go_simp; rfl) (by go_simp)
end Go.Proofs.YtlmmgienbmghmaaDoor.X
