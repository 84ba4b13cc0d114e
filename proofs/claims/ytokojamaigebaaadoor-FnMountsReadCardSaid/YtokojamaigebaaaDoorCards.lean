/-
  DERIVED. GIVEN WITH THE SEED: THE CARDS: each row of YtokojamaigebaaaDoorRows.lean that lists a variable, with what it lists TIED to the program's text (the seventh form; the later family's looks); each row that meets fmt, with fmt's text TOLD by the authors' own Lean function (tested against real Go, not proved from fmt's source: count such statements apart). THE CARD IS WHAT COUNTS. Prove the row's statement (the work); the ties are given (YtokojamaigebaaaDoorTie.lean); close each card by the builder's one call (the guide's Derived/Test/ToyasCard.lean, 'card_holds'). Laid BY PROGRAM, IN A SANDBOX (cutbox-door.mjs). By AI agents, Wed Nov 11 2026. No macro, syntax, notation, axiom, sorry.
-/
import Derived.Test.YtokojamaigebaaaDoorRows
import GoSem.ClaimSeven
namespace Go.Proofs.YtokojamaigebaaaDoor
namespace Rows

/-- THE TIED CARD OF 'laws.FnMountsBoth'. -/
def fnMountsBothCard : Claim7 := { stood := { row := fnMountsBothRow, standIns := [], harness := (true, "0b245b71aa32a2eaa8ab55b9c4409ce23df013b9c99222d753b7cb605defb828"), looks := true }, kinds := [], alts := [], laidByText := true, laidKinds := [.data, .data, .data, .sentinel, .sentinel], laidTests := true, laidLooks := .later }
def FnMountsBothCardSaid : Prop := Claim7.holds Tryd.pinned (.plain (OpenSpec.ofChange fnMountsBothSpec)) fnMountsBothCard

/-- THE TIED CARD OF 'laws.FnMountsOrder'. -/
def fnMountsOrderCard : Claim7 := { stood := { row := fnMountsOrderRow, standIns := [], harness := (true, "0b245b71aa32a2eaa8ab55b9c4409ce23df013b9c99222d753b7cb605defb828"), looks := true }, kinds := [], alts := [], laidByText := true, laidKinds := [.data, .data, .data, .sentinel, .sentinel], laidTests := true, laidLooks := .later }
def FnMountsOrderCardSaid : Prop := Claim7.holds Tryd.pinned (.plain (OpenSpec.ofChange fnMountsOrderSpec)) fnMountsOrderCard

/-- THE TIED CARD OF 'laws.FnMountsRead'. -/
def fnMountsReadCard : Claim7 := { stood := { row := fnMountsReadRow, standIns := [], harness := (true, "0b245b71aa32a2eaa8ab55b9c4409ce23df013b9c99222d753b7cb605defb828"), looks := true }, kinds := [], alts := [], laidByText := true, laidKinds := [.data, .data, .data, .sentinel, .sentinel], laidTests := true, laidLooks := .later }
def FnMountsReadCardSaid : Prop := Claim7.holds Tryd.pinned (.plain (OpenSpec.ofChange fnMountsReadSpec)) fnMountsReadCard

/-- THE SECOND FORM's CARD OF 'laws.FnMountsBoth'. -/
def fnMountsBothUptoCard : Claim7 := { stood := { row := fnMountsBothUptoRow, standIns := [], harness := (true, "0b245b71aa32a2eaa8ab55b9c4409ce23df013b9c99222d753b7cb605defb828"), looks := true }, kinds := [], alts := [], laidByText := true, laidKinds := [.data, .data, .data, .sentinel, .sentinel], laidTests := true, laidLooks := .later }
def FnMountsBothUptoCardSaid : Prop := Claim7.holds Tryd.pinned (.plain (OpenSpec.upto fnMountsBothSpec)) fnMountsBothUptoCard

/-- THE SECOND FORM's CARD OF 'laws.FnMountsOrder'. -/
def fnMountsOrderUptoCard : Claim7 := { stood := { row := fnMountsOrderUptoRow, standIns := [], harness := (true, "0b245b71aa32a2eaa8ab55b9c4409ce23df013b9c99222d753b7cb605defb828"), looks := true }, kinds := [], alts := [], laidByText := true, laidKinds := [.data, .data, .data, .sentinel, .sentinel], laidTests := true, laidLooks := .later }
def FnMountsOrderUptoCardSaid : Prop := Claim7.holds Tryd.pinned (.plain (OpenSpec.upto fnMountsOrderSpec)) fnMountsOrderUptoCard

/-- THE SECOND FORM's CARD OF 'laws.FnMountsRead'. -/
def fnMountsReadUptoCard : Claim7 := { stood := { row := fnMountsReadUptoRow, standIns := [], harness := (true, "0b245b71aa32a2eaa8ab55b9c4409ce23df013b9c99222d753b7cb605defb828"), looks := true }, kinds := [], alts := [], laidByText := true, laidKinds := [.data, .data, .data, .sentinel, .sentinel], laidTests := true, laidLooks := .later }
def FnMountsReadUptoCardSaid : Prop := Claim7.holds Tryd.pinned (.plain (OpenSpec.upto fnMountsReadSpec)) fnMountsReadUptoCard
end Rows
end Go.Proofs.YtokojamaigebaaaDoor
