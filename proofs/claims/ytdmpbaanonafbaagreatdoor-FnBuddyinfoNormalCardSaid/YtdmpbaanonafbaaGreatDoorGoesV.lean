/- A call through a function value (a closure that captures nothing) in a drawn region: goes_ for it. -/
import Derived.Test.YtdmpbaanonafbaaGreatDoorFlt
import Derived.Test.YtdmpbaanonafbaaGreatDoorWLast
import Derived.WalkKit
import Derived.KernelRfl
namespace Go.Proofs.YtdmpbaanonafbaaGreatDoorW.PrintWords
open Go.RowKit Go.Proofs.YtdmpbaanonafbaaGreatDoorW.PrintLast
variable {P : Program} {ops : Array Oper} {Q : Exit → Act → World → Prop}
theorem goesV_ {oi : Oper} {N : Option Tmp} {a : Act} {w : World} {K : Act → World → Prop} {c : Operand} {f : FuncId} {fn : Func} {rs : Array Operand} {ts : Array TypeId} (hf : P.funcs[f]? = some fn) (hname : (fn.name == "runtime.NumGoroutine") = false) (hb : fn.body.isSome = true) (args : Array Value)
    (hw : Region.wanted oi (yielded ops a.tmps) = true) (hN : oi.dst = N) (hop : oi.op = .call { callee := .value c, args := rs, argTypes := ts }) (hargs : rs.map a.eval = args)
    (h : Calls P f args w fun e w' => ∃ v, e = .returned v ∧ K (a.put N v) w') (hc : a.eval c = .func (.func f) #[] #[] := by rfl) : if Region.wanted oi (yielded ops a.tmps) = true then Oper.wp P oi a w K Q else K (a.put N undef) w := by
  refine call_ f args hw hN ?_ h
  have he := enters_ hf hname hb args w
  unfold execOp
  simp [hop, resolve, Deferred.ofValue, invoke, hc, hargs, he]
end Go.Proofs.YtdmpbaanonafbaaGreatDoorW.PrintWords
