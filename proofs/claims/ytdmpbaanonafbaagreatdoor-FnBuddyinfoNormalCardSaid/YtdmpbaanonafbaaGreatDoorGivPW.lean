/- strconv.ParseUint at base 16 and at base 10, 32 or 64 bits, in the print's form: what it answers of a good number; none elsewhere (nothing is claimed there). -/
import Derived.Test.YtdmpbaanonafbaaGreatDoorGivHex
import Derived.Test.YtdmpbaanonafbaaGreatDoorGivZ
set_option linter.unusedVariables false
set_option linter.unusedSimpArgs false
namespace Go.Proofs.YtdmpbaanonafbaaGreatDoor.GivPW
open Go.RowKit Go.Proofs.YtdmpbaanonafbaaGreatDoorW.PrintWords Go.Proofs.YtdmpbaanonafbaaGreatDoor.GivDec Go.Proofs.YtdmpbaanonafbaaGreatDoor.GivHex Go.Proofs.YtdmpbaanonafbaaGreatDoor.GivZ

end Go.Proofs.YtdmpbaanonafbaaGreatDoor.GivPW
