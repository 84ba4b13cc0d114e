/-
  DERIVED. GIVEN WITH THE SEED: THE CARDS: each row of YtlmmgienbmghmaaDoorRows.lean that lists a variable, with what it lists TIED to the program's text (the seventh form; the later family's looks); each row that meets fmt, with fmt's text TOLD by the authors' own Lean function (tested against real Go, not proved from fmt's source: count such statements apart). THE CARD IS WHAT COUNTS. Prove the row's statement (the work); the ties are given (YtlmmgienbmghmaaDoorTie.lean); close each card by the builder's one call (the guide's Derived/Test/ToyasCard.lean, 'card_holds'). Laid BY PROGRAM, IN A SANDBOX (cutbox-door.mjs). By AI agents, Wed Nov 11 2026. No macro, syntax, notation, axiom, sorry.
-/
import Derived.Test.YtlmmgienbmghmaaDoorRows
import GoSem.ClaimSeven
namespace Go.Proofs.YtlmmgienbmghmaaDoor
namespace Rows

/-- THE TIED CARD OF 'laws.FnNameBack'. -/
def fnNameBackCard : Claim7 := { stood := { row := fnNameBackRow, standIns := [], harness := (true, "a181232ed6ee464c76bd365f5434d88d6c19649fc23ecbc0d022807848626d89"), looks := true }, kinds := [], alts := [], laidByText := true, laidKinds := [.data, .data, .data, .sentinel, .sentinel], laidTests := true, laidLooks := .later }
def FnNameBackCardSaid : Prop := Claim7.holds Tryd.pinned (.plain (OpenSpec.ofChange fnNameBackSpec)) fnNameBackCard

/-- THE TIED CARD OF 'laws.FnUnitLong'. -/
def fnUnitLongCard : Claim7 := { stood := { row := fnUnitLongRow, standIns := [], harness := (true, "a181232ed6ee464c76bd365f5434d88d6c19649fc23ecbc0d022807848626d89"), looks := true }, kinds := [], alts := [], laidByText := true, laidKinds := [.data, .listed, .data, .data, .pinned], laidTests := true, laidLooks := .later }
def FnUnitLongCardSaid : Prop := Claim7.holds Tryd.pinned (.plain (OpenSpec.ofChange fnUnitLongSpec)) fnUnitLongCard

/-- THE TIED CARD OF 'laws.FnUnitRead'. -/
def fnUnitReadCard : Claim7 := { stood := { row := fnUnitReadRow, standIns := [], harness := (true, "a181232ed6ee464c76bd365f5434d88d6c19649fc23ecbc0d022807848626d89"), looks := true }, kinds := [], alts := [], laidByText := true, laidKinds := [.data, .listed, .data, .data, .pinned], laidTests := true, laidLooks := .later }
def FnUnitReadCardSaid : Prop := Claim7.holds Tryd.pinned (.plain (OpenSpec.ofChange fnUnitReadSpec)) fnUnitReadCard

/-- THE TIED CARD OF 'laws.FnUnitRoads'. -/
def fnUnitRoadsCard : Claim7 := { stood := { row := fnUnitRoadsRow, standIns := [], harness := (true, "a181232ed6ee464c76bd365f5434d88d6c19649fc23ecbc0d022807848626d89"), looks := true }, kinds := [], alts := [], laidByText := true, laidKinds := [.data, .listed, .data, .data, .pinned], laidTests := true, laidLooks := .later }
def FnUnitRoadsCardSaid : Prop := Claim7.holds Tryd.pinned (.plain (OpenSpec.ofChange fnUnitRoadsSpec)) fnUnitRoadsCard

/-- THE SECOND FORM's CARD OF 'laws.FnNameBack'. -/
def fnNameBackUptoCard : Claim7 := { stood := { row := fnNameBackUptoRow, standIns := [], harness := (true, "a181232ed6ee464c76bd365f5434d88d6c19649fc23ecbc0d022807848626d89"), looks := true }, kinds := [], alts := [], laidByText := true, laidKinds := [.data, .data, .data, .sentinel, .sentinel], laidTests := true, laidLooks := .later }
def FnNameBackUptoCardSaid : Prop := Claim7.holds Tryd.pinned (.plain (OpenSpec.upto fnNameBackSpec)) fnNameBackUptoCard

/-- THE SECOND FORM's CARD OF 'laws.FnUnitLong'. -/
def fnUnitLongUptoCard : Claim7 := { stood := { row := fnUnitLongUptoRow, standIns := [], harness := (true, "a181232ed6ee464c76bd365f5434d88d6c19649fc23ecbc0d022807848626d89"), looks := true }, kinds := [], alts := [], laidByText := true, laidKinds := [.data, .listed, .data, .data, .pinned], laidTests := true, laidLooks := .later }
def FnUnitLongUptoCardSaid : Prop := Claim7.holds Tryd.pinned (.plain (OpenSpec.upto fnUnitLongSpec)) fnUnitLongUptoCard

/-- THE SECOND FORM's CARD OF 'laws.FnUnitRead'. -/
def fnUnitReadUptoCard : Claim7 := { stood := { row := fnUnitReadUptoRow, standIns := [], harness := (true, "a181232ed6ee464c76bd365f5434d88d6c19649fc23ecbc0d022807848626d89"), looks := true }, kinds := [], alts := [], laidByText := true, laidKinds := [.data, .listed, .data, .data, .pinned], laidTests := true, laidLooks := .later }
def FnUnitReadUptoCardSaid : Prop := Claim7.holds Tryd.pinned (.plain (OpenSpec.upto fnUnitReadSpec)) fnUnitReadUptoCard

/-- THE SECOND FORM's CARD OF 'laws.FnUnitRoads'. -/
def fnUnitRoadsUptoCard : Claim7 := { stood := { row := fnUnitRoadsUptoRow, standIns := [], harness := (true, "a181232ed6ee464c76bd365f5434d88d6c19649fc23ecbc0d022807848626d89"), looks := true }, kinds := [], alts := [], laidByText := true, laidKinds := [.data, .listed, .data, .data, .pinned], laidTests := true, laidLooks := .later }
def FnUnitRoadsUptoCardSaid : Prop := Claim7.holds Tryd.pinned (.plain (OpenSpec.upto fnUnitRoadsSpec)) fnUnitRoadsUptoCard
end Rows
end Go.Proofs.YtlmmgienbmghmaaDoor
