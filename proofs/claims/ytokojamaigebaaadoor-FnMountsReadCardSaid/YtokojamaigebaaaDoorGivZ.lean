/- Seat m1: the names that the lines' reader imports; nothing of its own. -/
import Derived.Test.YtokojamaigebaaaDoorProg
import Derived.WalkKit
import Derived.WalkSpells
import Derived.WalkSmall
import Derived.KernelRfl
import Derived.Test.YtokojamaigebaaaDoorWMore
namespace Go.Proofs.YtokojamaigebaaaDoor.GivZ
end Go.Proofs.YtokojamaigebaaaDoor.GivZ
