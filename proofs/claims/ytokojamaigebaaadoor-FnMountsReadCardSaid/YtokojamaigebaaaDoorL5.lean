-- written by a program of this session (wip/tools/pp.py)
import Derived.Test.YtokojamaigebaaaDoorL0
namespace Go.Proofs.YtokojamaigebaaaDoor.L
open Go.RowKit Go.Proofs.YtokojamaigebaaaDoorW.PrintWords Go.Proofs.YtokojamaigebaaaDoorW.PrintLast Go.Proofs.YtokojamaigebaaaDoor.M Go.Proofs.YtokojamaigebaaaDoor.MtDoor Go.Proofs.YtokojamaigebaaaDoorW.PrintMore
attribute [local go_sem] max2_int min2_int max_two min_two max_three min_three max_four min_four   -- for this text's walks alone
set_option linter.unusedVariables false
set_option linter.unusedSimpArgs false

/-! ### spec_natural: function 32 -/
/-! ### spec_octal: function 33 -/
end Go.Proofs.YtokojamaigebaaaDoor.L
