/- Mounts and filters as arguments: a struct by value, a slice of structs. -/
import Derived.Test.YtokojamaigebaaaDoorMtLoop
import Derived.Deep.Slices
import Derived.Deep.Fields
import Derived.ChangeSame
import Derived.Lib.SmallJoins
import Derived.SliceStrings
import Derived.Carry
set_option linter.unusedVariables false
set_option linter.unusedSimpArgs false
namespace Go.Proofs.YtokojamaigebaaaDoor.MtOpen
open Go.RowKit Go.ChangeShapes Go.WideShapes Go.Deep Go.Joins Go.Proofs.YtokojamaigebaaaDoorW.PrintWords Go.Proofs.YtokojamaigebaaaDoorW.PrintLast Go.Proofs.YtokojamaigebaaaDoorW.PrintMore Go.Proofs.YtokojamaigebaaaDoor.M
section
variable {H : Type} {enc : TypeId × Value → H} {w : World} {base : Nat} {spare : Nat → Bool} {held : Bool}
end
end Go.Proofs.YtokojamaigebaaaDoor.MtOpen
