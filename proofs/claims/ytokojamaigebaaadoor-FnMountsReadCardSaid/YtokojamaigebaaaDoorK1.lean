import Derived.Test.YtokojamaigebaaaDoorProg
import Derived.Below
import Derived.Deep.Draws
import Derived.Deep.AppendLies
import Derived.Maps.AppendAt
import Derived.OwnWalk
import Derived.Laws.BytesArg
import Derived.Laws.MakeOwn
import Derived.Laws.OwnMore
import Derived.Deep.OwnRows
import Derived.Tactics
import Derived.Lib.ConvBytes
import Derived.Laws.Slices
import Derived.WalkKit
import Derived.KernelRfl
import Derived.RowKit3
import Derived.Deep.LoopGhost
import Derived.Deep.QuietTactic
import Derived.BigQuiet
import Derived.WideLaws
import Derived.Deep.DeepCutAuto
import Derived.Deep.CutBlock
import Derived.Deep.RegionHeld3
import Derived.Laws.Rows
import Derived.Lib.AppendStr
import Derived.ArgAppend
import Derived.Laws.IdiomCopy
import Derived.OrdersHeld
import Derived.Laws.BitsLemmas
import Derived.RowKit
import Derived.Test.YtokojamaigebaaaDoorSq
import Derived.Test.YtokojamaigebaaaDoorM0
import Derived.Test.YtokojamaigebaaaDoorMtDoorE
import Derived.Test.YtokojamaigebaaaDoorL0
import Derived.Test.YtokojamaigebaaaDoorL4
import Derived.Test.YtokojamaigebaaaDoorL5
import Derived.Test.YtokojamaigebaaaDoorWWords
import Derived.Test.YtokojamaigebaaaDoorWLast
import Derived.Test.YtokojamaigebaaaDoorWTab
import Derived.Test.YtokojamaigebaaaDoorWQPut
import Derived.Test.YtokojamaigebaaaDoorWApart
import Derived.Test.YtokojamaigebaaaDoorWArr
import Derived.Test.YtokojamaigebaaaDoorWZeros
import Derived.Test.YtokojamaigebaaaDoorWFoot
import Derived.Test.YtokojamaigebaaaDoorWKept
import Derived.Test.YtokojamaigebaaaDoorWShare
import Derived.Test.YtokojamaigebaaaDoorWN
import Derived.Test.YtokojamaigebaaaDoorWEqStruct
import Derived.Test.YtokojamaigebaaaDoorWRepsOne
import Derived.Test.YtokojamaigebaaaDoorWGuard
import Derived.Test.YtokojamaigebaaaDoorWNEv
import Derived.Test.YtokojamaigebaaaDoorWMore
-- written by a program of this session (wip/tools/pp.py)
namespace Go.Proofs.YtokojamaigebaaaDoor.K
open Go.RowKit Go.Proofs.YtokojamaigebaaaDoorW.PrintWords Go.Proofs.YtokojamaigebaaaDoorW.PrintLast Go.Proofs.YtokojamaigebaaaDoor.M Go.Proofs.YtokojamaigebaaaDoor.MtDoorE Go.Proofs.YtokojamaigebaaaDoor.L Go.Proofs.YtokojamaigebaaaDoorW.PrintMore
attribute [local go_sem] max2_int min2_int max_two min_two max_three min_three max_four min_four   -- for this text's walks alone
set_option linter.unusedVariables false
set_option linter.unusedSimpArgs false




theorem info4 : (Tryd.prog.info? 4).map (fun i => (i.zero, i.size, i.bytes)) = some (some (.bool false), 1, 1) := by kernel_rfl
theorem info5 : (Tryd.prog.info? 5).map (fun i => (i.zero, i.size, i.bytes)) = some (some (.int .u8 0), 1, 1) := by kernel_rfl
theorem info9 : (Tryd.prog.info? 9).map (fun i => (i.zero, i.size, i.bytes)) = some (some (.string ⟨#[]⟩), 1, 16) := by kernel_rfl
theorem info23 : (Tryd.prog.info? 23).map (fun i => (i.zero, i.size, i.bytes)) = some (some (.agg #[(.int .i64 0), (.int .i64 0), (.int .i64 0), (.int .i64 0), (.string ⟨#[]⟩), (.string ⟨#[]⟩), (.string ⟨#[]⟩), (.string ⟨#[]⟩), (.string ⟨#[]⟩), (.string ⟨#[]⟩), (.string ⟨#[]⟩)]), 11, 144) := by kernel_rfl
theorem info62 : (Tryd.prog.info? 62).map (fun i => (i.zero, i.size, i.bytes)) = some (some (.agg #[(.int .i64 0), (.int .i64 0), (.int .i64 0), (.int .i64 0), (.string ⟨#[]⟩), (.string ⟨#[]⟩), (.string ⟨#[]⟩), (.string ⟨#[]⟩), (.string ⟨#[]⟩), (.string ⟨#[]⟩), (.string ⟨#[]⟩)]), 11, 144) := by kernel_rfl
-- the values' own types
/-! #### struct type 23 -/
end Go.Proofs.YtokojamaigebaaaDoor.K

-- written by a program of this session (wip/tools/pp.py)
namespace Go.Proofs.YtokojamaigebaaaDoor.K
open Go.RowKit Go.Proofs.YtokojamaigebaaaDoorW.PrintWords Go.Proofs.YtokojamaigebaaaDoorW.PrintLast Go.Proofs.YtokojamaigebaaaDoor.M Go.Proofs.YtokojamaigebaaaDoor.MtDoorE Go.Proofs.YtokojamaigebaaaDoor.L Go.Proofs.YtokojamaigebaaaDoorW.PrintMore
attribute [local go_sem] max2_int min2_int max_two min_two max_three min_three max_four min_four   -- for this text's walks alone
set_option linter.unusedVariables false
set_option linter.unusedSimpArgs false

theorem eqA23 (d : Nat) (w : World) (x0 y0 : Int) (x1 y1 : Int) (x2 y2 : Int) (x3 y3 : Int) (x4 y4 : ByteArray) (x5 y5 : ByteArray) (x6 y6 : ByteArray) (x7 y7 : ByteArray) (x8 y8 : ByteArray) (x9 y9 : ByteArray) (x10 y10 : ByteArray) :
  (Op.equalIn (d + 2) 23 (.agg #[.int .i64 x0, .int .i64 x1, .int .i64 x2, .int .i64 x3, .string x4, .string x5, .string x6, .string x7, .string x8, .string x9, .string x10]) (.agg #[.int .i64 y0, .int .i64 y1, .int .i64 y2, .int .i64 y3, .string y4, .string y5, .string y6, .string y7, .string y8, .string y9, .string y10])).run Tryd.prog w = .ok (x0 == y0 && (x1 == y1 && (x2 == y2 && (x3 == y3 && (x4.toList == y4.toList && (x5.toList == y5.toList && (x6.toList == y6.toList && (x7.toList == y7.toList && (x8.toList == y8.toList && (x9.toList == y9.toList && (x10.toList == y10.toList))))))))))) w := by
 refine eqA_of Tryd.underlying23 (by kernel_rfl) ?_
 refine eqf_cons (by rfl) (by go_simp; rfl) (by go_simp; rfl) (by go_simp) ?_
 refine eqf_cons (by rfl) (by go_simp; rfl) (by go_simp; rfl) (by go_simp) ?_
 refine eqf_cons (by rfl) (by go_simp; rfl) (by go_simp; rfl) (by go_simp) ?_
 refine eqf_cons (by rfl) (by go_simp; rfl) (by go_simp; rfl) (by go_simp) ?_
 refine eqf_cons (by rfl) (by go_simp; rfl) (by go_simp; rfl) (by go_simp) ?_
 refine eqf_cons (by rfl) (by go_simp; rfl) (by go_simp; rfl) (by go_simp) ?_
 refine eqf_cons (by rfl) (by go_simp; rfl) (by go_simp; rfl) (by go_simp) ?_
 refine eqf_cons (by rfl) (by go_simp; rfl) (by go_simp; rfl) (by go_simp) ?_
 refine eqf_cons (by rfl) (by go_simp; rfl) (by go_simp; rfl) (by go_simp) ?_
 refine eqf_cons (by rfl) (by go_simp; rfl) (by go_simp; rfl) (by go_simp) ?_
 exact eqf_last (by rfl) (by go_simp; rfl) (by go_simp; rfl) (by go_simp)
end Go.Proofs.YtokojamaigebaaaDoor.K
