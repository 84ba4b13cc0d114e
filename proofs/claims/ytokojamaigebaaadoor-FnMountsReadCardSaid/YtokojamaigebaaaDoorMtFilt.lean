/- The filters of mounts by hand: each closure's body, and that it is a filter. -/
import Derived.Test.YtokojamaigebaaaDoorMtLoop
import Derived.Deep.QuietTactic
import Derived.BigQuiet
import Derived.Tactics
import Derived.Tactics2
import Derived.Lib.Hide
namespace Go.Proofs.YtokojamaigebaaaDoor.MtFilt
open Go.RowKit Go.Proofs.YtokojamaigebaaaDoorW.PrintWords Go.Proofs.YtokojamaigebaaaDoorW.PrintLast Go.Proofs.YtokojamaigebaaaDoorW.PrintMore Go.Proofs.YtokojamaigebaaaDoor.Scan Go.Proofs.YtokojamaigebaaaDoor.ScanL Go.Proofs.YtokojamaigebaaaDoor.GivM Go.Proofs.YtokojamaigebaaaDoor.M Go.Proofs.YtokojamaigebaaaDoor.U Go.Proofs.YtokojamaigebaaaDoor.MtLoop
attribute [local go_sem] max2_int min2_int max_two min_two max_three min_three max_four min_four
set_option linter.unusedVariables false
set_option linter.unusedSimpArgs false
end Go.Proofs.YtokojamaigebaaaDoor.MtFilt
