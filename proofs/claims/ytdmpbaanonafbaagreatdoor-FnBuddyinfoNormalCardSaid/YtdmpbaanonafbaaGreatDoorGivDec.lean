/- internal/strconv's and strconv's ParseUint at base 10, 64 bits: what they answer where each sign is a decimal digit and the number fits; none elsewhere (nothing is claimed there). -/
import Derived.Test.YtdmpbaanonafbaaGreatDoorProg
import Derived.WalkKit
import Derived.WalkSpells
import Derived.KernelRfl
import Derived.Lib.Strings
import Derived.Lib.Walk
import Derived.Lib.ConvBytes
import Derived.Lib.Hide
import Derived.Laws.Strings3
import Derived.Laws.Closers25
import Derived.Laws.Closers25b
import Derived.BigCall
import Derived.BigGuard
import Derived.Test.YtdmpbaanonafbaaGreatDoorWWords
set_option linter.unusedVariables false
set_option linter.unusedSimpArgs false
namespace Go.Proofs.YtdmpbaanonafbaaGreatDoor.GivDec
open Go.RowKit Go.Proofs.YtdmpbaanonafbaaGreatDoorW.PrintWords

/-- A number's value, digit by digit; none: a sign that is no digit. -/
def decv : Nat → List UInt8 → Option Nat
  | acc, [] => some acc
  | acc, c :: cs => if 48 ≤ c.toNat ∧ c.toNat ≤ 57 then decv (acc * 10 + (c.toNat - 48)) cs else none
theorem decv_le : ∀ (l : List UInt8) (acc v : Nat), decv acc l = some v → acc ≤ v
  | [], acc, v, h => by simp [decv] at h; omega
  | c :: cs, acc, v, h => by
    rw [decv] at h
    by_cases hd : 48 ≤ c.toNat ∧ c.toNat ≤ 57
    · rw [if_pos hd] at h
      have := decv_le cs _ v h
      omega
    · rw [if_neg hd] at h; cases h

end Go.Proofs.YtdmpbaanonafbaaGreatDoor.GivDec
