/- internal/strconv's reader of numbers at base 16: what it answers where each sign is a hexadecimal digit and the number fits; by hand. -/
import Derived.Test.YtdmpbaanonafbaaGreatDoorProg
import Derived.WalkKit
import Derived.WalkSpells
import Derived.KernelRfl
import Derived.Lib.Strings
import Derived.Lib.Walk
import Derived.Lib.ConvBytes
import Derived.Lib.Hide
import Derived.Laws.Strings3
import Derived.Laws.Closers25
import Derived.Laws.Closers25b
import Derived.BigCall
import Derived.BigGuard
import Derived.Test.YtdmpbaanonafbaaGreatDoorWWords
set_option linter.unusedVariables false
set_option linter.unusedSimpArgs false
namespace Go.Proofs.YtdmpbaanonafbaaGreatDoor.GivHex
open Go.RowKit Go.Proofs.YtdmpbaanonafbaaGreatDoorW.PrintWords

/-- A hexadecimal digit's value. -/
def dig (c : UInt8) : Option Nat := if 48 ≤ c.toNat ∧ c.toNat ≤ 57 then some (c.toNat - 48) else if 97 ≤ c.toNat ∧ c.toNat ≤ 102 then some (c.toNat - 87) else if 65 ≤ c.toNat ∧ c.toNat ≤ 70 then some (c.toNat - 55) else none
end Go.Proofs.YtdmpbaanonafbaaGreatDoor.GivHex
