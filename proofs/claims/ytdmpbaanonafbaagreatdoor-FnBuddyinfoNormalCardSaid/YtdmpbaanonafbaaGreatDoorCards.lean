/-
  DERIVED. GIVEN WITH THE SEED: THE CARDS: each row of YtdmpbaanonafbaaGreatDoorRows.lean that lists a variable, with what it lists TIED to the program's text (the seventh form; the later family's looks); each row that meets fmt, with fmt's text TOLD by the authors' own Lean function (tested against real Go, not proved from fmt's source: count such statements apart). THE CARD IS WHAT COUNTS. Prove the row's statement (the work); the ties are given (YtdmpbaanonafbaaGreatDoorTie.lean); close each card by the builder's one call (the guide's Derived/Test/ToyasCard.lean, 'card_holds'). Laid BY PROGRAM, IN A SANDBOX (cutbox-door.mjs). By AI agents, Wed Nov 11 2026. No macro, syntax, notation, axiom, sorry.
-/
import Derived.Test.YtdmpbaanonafbaaGreatDoorRows
import GoSem.ClaimSeven
namespace Go.Proofs.YtdmpbaanonafbaaGreatDoor
namespace Rows

/-- THE TIED CARD OF 'laws.FnLoadavgNormal'. -/
def fnLoadavgNormalCard : Claim7 := { stood := { row := fnLoadavgNormalRow, standIns := [], harness := (true, "3cc3723a1fe20bcf877a875bec18b62768e17bcb53d2ead68e089c596b1ccdbe"), looks := true }, kinds := [], alts := [], laidByText := true, laidKinds := [.data, .data, .widerDeep, .widerDeep, .data, .data, .data, .data, .data, .sentinel, .sentinel, .listed, .data, .pinned, .pinned], laidTests := true, laidLooks := .later }
def FnLoadavgNormalCardSaid : Prop := Claim7.holds Tryz.pinned (.plain (OpenSpec.ofChange fnLoadavgNormalSpec)) fnLoadavgNormalCard

/-- THE TIED CARD OF 'laws.FnBuddyinfoNormal'. -/
def fnBuddyinfoNormalCard : Claim7 := { stood := { row := fnBuddyinfoNormalRow, standIns := [], harness := (true, "3cc3723a1fe20bcf877a875bec18b62768e17bcb53d2ead68e089c596b1ccdbe"), looks := true }, kinds := [], alts := [], laidByText := true, laidKinds := [.data, .data, .widerDeep, .widerDeep, .data, .data, .data, .data, .data, .sentinel, .sentinel, .listed, .data, .pinned, .pinned], laidTests := true, laidLooks := .later }
def FnBuddyinfoNormalCardSaid : Prop := Claim7.holds Tryz.pinned (.plain (OpenSpec.ofChange fnBuddyinfoNormalSpec)) fnBuddyinfoNormalCard

/-- THE TIED CARD OF 'laws.FnStatmNormal'. -/
def fnStatmNormalCard : Claim7 := { stood := { row := fnStatmNormalRow, standIns := [], harness := (true, "3cc3723a1fe20bcf877a875bec18b62768e17bcb53d2ead68e089c596b1ccdbe"), looks := true }, kinds := [], alts := [], laidByText := true, laidKinds := [.data, .data, .widerDeep, .widerDeep, .data, .data, .data, .data, .data, .sentinel, .sentinel, .listed, .data, .pinned, .pinned], laidTests := true, laidLooks := .later }
def FnStatmNormalCardSaid : Prop := Claim7.holds Tryz.pinned (.plain (OpenSpec.ofChange fnStatmNormalSpec)) fnStatmNormalCard

/-- THE TIED CARD OF 'laws.FnSchedstatNormal'. -/
def fnSchedstatNormalCard : Claim7 := { stood := { row := fnSchedstatNormalRow, standIns := [], harness := (true, "3cc3723a1fe20bcf877a875bec18b62768e17bcb53d2ead68e089c596b1ccdbe"), looks := true }, kinds := [], alts := [], laidByText := true, laidKinds := [.data, .data, .widerDeep, .widerDeep, .data, .data, .data, .data, .data, .sentinel, .sentinel, .listed, .data, .pinned, .pinned], laidTests := true, laidLooks := .later }
def FnSchedstatNormalCardSaid : Prop := Claim7.holds Tryz.pinned (.plain (OpenSpec.ofChange fnSchedstatNormalSpec)) fnSchedstatNormalCard

/-- THE TIED CARD OF 'laws.FnConntrackNormal'. -/
def fnConntrackNormalCard : Claim7 := { stood := { row := fnConntrackNormalRow, standIns := [], harness := (true, "3cc3723a1fe20bcf877a875bec18b62768e17bcb53d2ead68e089c596b1ccdbe"), looks := true }, kinds := [], alts := [], laidByText := true, laidKinds := [.data, .data, .widerDeep, .widerDeep, .data, .data, .data, .data, .data, .sentinel, .sentinel, .listed, .data, .pinned, .pinned], laidTests := true, laidLooks := .later }
def FnConntrackNormalCardSaid : Prop := Claim7.holds Tryz.pinned (.plain (OpenSpec.ofChange fnConntrackNormalSpec)) fnConntrackNormalCard

/-- THE TIED CARD OF 'laws.FnSoftnetNormal'. -/
def fnSoftnetNormalCard : Claim7 := { stood := { row := fnSoftnetNormalRow, standIns := [], harness := (true, "3cc3723a1fe20bcf877a875bec18b62768e17bcb53d2ead68e089c596b1ccdbe"), looks := true }, kinds := [], alts := [], laidByText := true, laidKinds := [.data, .data, .widerDeep, .widerDeep, .data, .data, .data, .data, .data, .sentinel, .sentinel, .listed, .data, .pinned, .pinned], laidTests := true, laidLooks := .later }
def FnSoftnetNormalCardSaid : Prop := Claim7.holds Tryz.pinned (.plain (OpenSpec.ofChange fnSoftnetNormalSpec)) fnSoftnetNormalCard

/-- THE TIED CARD OF 'laws.FnRouteNormal'. -/
def fnRouteNormalCard : Claim7 := { stood := { row := fnRouteNormalRow, standIns := [], harness := (true, "3cc3723a1fe20bcf877a875bec18b62768e17bcb53d2ead68e089c596b1ccdbe"), looks := true }, kinds := [], alts := [], laidByText := true, laidKinds := [.data, .data, .widerDeep, .widerDeep, .data, .data, .data, .data, .data, .sentinel, .sentinel, .listed, .data, .pinned, .pinned], laidTests := true, laidLooks := .later }
def FnRouteNormalCardSaid : Prop := Claim7.holds Tryz.pinned (.plain (OpenSpec.ofChange fnRouteNormalSpec)) fnRouteNormalCard

/-- THE TIED CARD OF 'laws.FnCgroupSummaryNormal'. -/
def fnCgroupSummaryNormalCard : Claim7 := { stood := { row := fnCgroupSummaryNormalRow, standIns := [], harness := (true, "3cc3723a1fe20bcf877a875bec18b62768e17bcb53d2ead68e089c596b1ccdbe"), looks := true }, kinds := [], alts := [], laidByText := true, laidKinds := [.data, .data, .widerDeep, .widerDeep, .data, .data, .data, .data, .data, .sentinel, .sentinel, .listed, .data, .pinned, .pinned], laidTests := true, laidLooks := .later }
def FnCgroupSummaryNormalCardSaid : Prop := Claim7.holds Tryz.pinned (.plain (OpenSpec.ofChange fnCgroupSummaryNormalSpec)) fnCgroupSummaryNormalCard

/-- THE SECOND FORM's CARD OF 'laws.FnLoadavgNormal'. -/
def fnLoadavgNormalUptoCard : Claim7 := { stood := { row := fnLoadavgNormalUptoRow, standIns := [], harness := (true, "3cc3723a1fe20bcf877a875bec18b62768e17bcb53d2ead68e089c596b1ccdbe"), looks := true }, kinds := [], alts := [], laidByText := true, laidKinds := [.data, .data, .widerDeep, .widerDeep, .data, .data, .data, .data, .data, .sentinel, .sentinel, .listed, .data, .pinned, .pinned], laidTests := true, laidLooks := .later }
def FnLoadavgNormalUptoCardSaid : Prop := Claim7.holds Tryz.pinned (.plain (OpenSpec.upto fnLoadavgNormalSpec)) fnLoadavgNormalUptoCard

/-- THE SECOND FORM's CARD OF 'laws.FnBuddyinfoNormal'. -/
def fnBuddyinfoNormalUptoCard : Claim7 := { stood := { row := fnBuddyinfoNormalUptoRow, standIns := [], harness := (true, "3cc3723a1fe20bcf877a875bec18b62768e17bcb53d2ead68e089c596b1ccdbe"), looks := true }, kinds := [], alts := [], laidByText := true, laidKinds := [.data, .data, .widerDeep, .widerDeep, .data, .data, .data, .data, .data, .sentinel, .sentinel, .listed, .data, .pinned, .pinned], laidTests := true, laidLooks := .later }
def FnBuddyinfoNormalUptoCardSaid : Prop := Claim7.holds Tryz.pinned (.plain (OpenSpec.upto fnBuddyinfoNormalSpec)) fnBuddyinfoNormalUptoCard

/-- THE SECOND FORM's CARD OF 'laws.FnStatmNormal'. -/
def fnStatmNormalUptoCard : Claim7 := { stood := { row := fnStatmNormalUptoRow, standIns := [], harness := (true, "3cc3723a1fe20bcf877a875bec18b62768e17bcb53d2ead68e089c596b1ccdbe"), looks := true }, kinds := [], alts := [], laidByText := true, laidKinds := [.data, .data, .widerDeep, .widerDeep, .data, .data, .data, .data, .data, .sentinel, .sentinel, .listed, .data, .pinned, .pinned], laidTests := true, laidLooks := .later }
def FnStatmNormalUptoCardSaid : Prop := Claim7.holds Tryz.pinned (.plain (OpenSpec.upto fnStatmNormalSpec)) fnStatmNormalUptoCard

/-- THE SECOND FORM's CARD OF 'laws.FnSchedstatNormal'. -/
def fnSchedstatNormalUptoCard : Claim7 := { stood := { row := fnSchedstatNormalUptoRow, standIns := [], harness := (true, "3cc3723a1fe20bcf877a875bec18b62768e17bcb53d2ead68e089c596b1ccdbe"), looks := true }, kinds := [], alts := [], laidByText := true, laidKinds := [.data, .data, .widerDeep, .widerDeep, .data, .data, .data, .data, .data, .sentinel, .sentinel, .listed, .data, .pinned, .pinned], laidTests := true, laidLooks := .later }
def FnSchedstatNormalUptoCardSaid : Prop := Claim7.holds Tryz.pinned (.plain (OpenSpec.upto fnSchedstatNormalSpec)) fnSchedstatNormalUptoCard

/-- THE SECOND FORM's CARD OF 'laws.FnConntrackNormal'. -/
def fnConntrackNormalUptoCard : Claim7 := { stood := { row := fnConntrackNormalUptoRow, standIns := [], harness := (true, "3cc3723a1fe20bcf877a875bec18b62768e17bcb53d2ead68e089c596b1ccdbe"), looks := true }, kinds := [], alts := [], laidByText := true, laidKinds := [.data, .data, .widerDeep, .widerDeep, .data, .data, .data, .data, .data, .sentinel, .sentinel, .listed, .data, .pinned, .pinned], laidTests := true, laidLooks := .later }
def FnConntrackNormalUptoCardSaid : Prop := Claim7.holds Tryz.pinned (.plain (OpenSpec.upto fnConntrackNormalSpec)) fnConntrackNormalUptoCard

/-- THE SECOND FORM's CARD OF 'laws.FnSoftnetNormal'. -/
def fnSoftnetNormalUptoCard : Claim7 := { stood := { row := fnSoftnetNormalUptoRow, standIns := [], harness := (true, "3cc3723a1fe20bcf877a875bec18b62768e17bcb53d2ead68e089c596b1ccdbe"), looks := true }, kinds := [], alts := [], laidByText := true, laidKinds := [.data, .data, .widerDeep, .widerDeep, .data, .data, .data, .data, .data, .sentinel, .sentinel, .listed, .data, .pinned, .pinned], laidTests := true, laidLooks := .later }
def FnSoftnetNormalUptoCardSaid : Prop := Claim7.holds Tryz.pinned (.plain (OpenSpec.upto fnSoftnetNormalSpec)) fnSoftnetNormalUptoCard

/-- THE SECOND FORM's CARD OF 'laws.FnRouteNormal'. -/
def fnRouteNormalUptoCard : Claim7 := { stood := { row := fnRouteNormalUptoRow, standIns := [], harness := (true, "3cc3723a1fe20bcf877a875bec18b62768e17bcb53d2ead68e089c596b1ccdbe"), looks := true }, kinds := [], alts := [], laidByText := true, laidKinds := [.data, .data, .widerDeep, .widerDeep, .data, .data, .data, .data, .data, .sentinel, .sentinel, .listed, .data, .pinned, .pinned], laidTests := true, laidLooks := .later }
def FnRouteNormalUptoCardSaid : Prop := Claim7.holds Tryz.pinned (.plain (OpenSpec.upto fnRouteNormalSpec)) fnRouteNormalUptoCard

/-- THE SECOND FORM's CARD OF 'laws.FnCgroupSummaryNormal'. -/
def fnCgroupSummaryNormalUptoCard : Claim7 := { stood := { row := fnCgroupSummaryNormalUptoRow, standIns := [], harness := (true, "3cc3723a1fe20bcf877a875bec18b62768e17bcb53d2ead68e089c596b1ccdbe"), looks := true }, kinds := [], alts := [], laidByText := true, laidKinds := [.data, .data, .widerDeep, .widerDeep, .data, .data, .data, .data, .data, .sentinel, .sentinel, .listed, .data, .pinned, .pinned], laidTests := true, laidLooks := .later }
def FnCgroupSummaryNormalUptoCardSaid : Prop := Claim7.holds Tryz.pinned (.plain (OpenSpec.upto fnCgroupSummaryNormalSpec)) fnCgroupSummaryNormalUptoCard
end Rows
end Go.Proofs.YtdmpbaanonafbaaGreatDoor
