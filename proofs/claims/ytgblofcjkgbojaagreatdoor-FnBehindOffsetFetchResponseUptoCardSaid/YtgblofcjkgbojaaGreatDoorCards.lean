/-
  DERIVED. GIVEN WITH THE SEED: THE CARDS: each row of YtgblofcjkgbojaaGreatDoorRows.lean that lists a variable, with what it lists TIED to the program's text (the seventh form; the later family's looks); each row that meets fmt, with fmt's text TOLD by the authors' own Lean function (tested against real Go, not proved from fmt's source: count such statements apart). THE CARD IS WHAT COUNTS. Prove the row's statement (the work); the ties are given (YtgblofcjkgbojaaGreatDoorTie.lean); close each card by the builder's one call (the guide's Derived/Test/ToyasCard.lean, 'card_holds'). Laid BY PROGRAM, IN A SANDBOX (cutbox-door.mjs). By AI agents, Wed Nov 11 2026. No macro, syntax, notation, axiom, sorry.
-/
import Derived.Test.YtgblofcjkgbojaaGreatDoorRows
import GoSem.ClaimSeven
namespace Go.Proofs.YtgblofcjkgbojaaGreatDoor
namespace Rows

/-- THE TIED CARD OF 'laws.FnBehindReadShareGroupStateSummaryRequest'. -/
def fnBehindReadShareGroupStateSummaryRequestCard : Claim7 := { stood := { row := fnBehindReadShareGroupStateSummaryRequestRow, standIns := [], harness := (true, "869630cfb3ed5e5749feb6caac9956a06debc65a05baf994308615864bc378f4"), looks := false }, kinds := [], alts := [], laidByText := true, laidKinds := [.sentinel], laidTests := true, laidLooks := .later }
def FnBehindReadShareGroupStateSummaryRequestCardSaid : Prop := Claim7.holds Tryz.pinned (.plain (OpenSpec.ofChange fnBehindReadShareGroupStateSummaryRequestSpec)) fnBehindReadShareGroupStateSummaryRequestCard

/-- THE TIED CARD OF 'laws.FnBehindGetTelemetrySubscriptionsResponse'. -/
def fnBehindGetTelemetrySubscriptionsResponseCard : Claim7 := { stood := { row := fnBehindGetTelemetrySubscriptionsResponseRow, standIns := [], harness := (true, "869630cfb3ed5e5749feb6caac9956a06debc65a05baf994308615864bc378f4"), looks := false }, kinds := [], alts := [], laidByText := true, laidKinds := [.sentinel], laidTests := true, laidLooks := .later }
def FnBehindGetTelemetrySubscriptionsResponseCardSaid : Prop := Claim7.holds Tryz.pinned (.plain (OpenSpec.ofChange fnBehindGetTelemetrySubscriptionsResponseSpec)) fnBehindGetTelemetrySubscriptionsResponseCard

/-- THE TIED CARD OF 'laws.FnBehindAlterClientQuotasResponse'. -/
def fnBehindAlterClientQuotasResponseCard : Claim7 := { stood := { row := fnBehindAlterClientQuotasResponseRow, standIns := [], harness := (true, "869630cfb3ed5e5749feb6caac9956a06debc65a05baf994308615864bc378f4"), looks := false }, kinds := [], alts := [], laidByText := true, laidKinds := [.sentinel], laidTests := true, laidLooks := .later }
def FnBehindAlterClientQuotasResponseCardSaid : Prop := Claim7.holds Tryz.pinned (.plain (OpenSpec.ofChange fnBehindAlterClientQuotasResponseSpec)) fnBehindAlterClientQuotasResponseCard

/-- THE TIED CARD OF 'laws.FnBehindJoinGroupRequest'. -/
def fnBehindJoinGroupRequestCard : Claim7 := { stood := { row := fnBehindJoinGroupRequestRow, standIns := [], harness := (true, "869630cfb3ed5e5749feb6caac9956a06debc65a05baf994308615864bc378f4"), looks := false }, kinds := [], alts := [], laidByText := true, laidKinds := [.sentinel], laidTests := true, laidLooks := .later }
def FnBehindJoinGroupRequestCardSaid : Prop := Claim7.holds Tryz.pinned (.plain (OpenSpec.ofChange fnBehindJoinGroupRequestSpec)) fnBehindJoinGroupRequestCard

/-- THE TIED CARD OF 'laws.FnBehindDescribeLogDirsResponse'. -/
def fnBehindDescribeLogDirsResponseCard : Claim7 := { stood := { row := fnBehindDescribeLogDirsResponseRow, standIns := [], harness := (true, "869630cfb3ed5e5749feb6caac9956a06debc65a05baf994308615864bc378f4"), looks := false }, kinds := [], alts := [], laidByText := true, laidKinds := [.sentinel], laidTests := true, laidLooks := .later }
def FnBehindDescribeLogDirsResponseCardSaid : Prop := Claim7.holds Tryz.pinned (.plain (OpenSpec.ofChange fnBehindDescribeLogDirsResponseSpec)) fnBehindDescribeLogDirsResponseCard

/-- THE TIED CARD OF 'laws.FnBehindDescribeACLsResponse'. -/
def fnBehindDescribeACLsResponseCard : Claim7 := { stood := { row := fnBehindDescribeACLsResponseRow, standIns := [], harness := (true, "869630cfb3ed5e5749feb6caac9956a06debc65a05baf994308615864bc378f4"), looks := false }, kinds := [], alts := [], laidByText := true, laidKinds := [.sentinel], laidTests := true, laidLooks := .later }
def FnBehindDescribeACLsResponseCardSaid : Prop := Claim7.holds Tryz.pinned (.plain (OpenSpec.ofChange fnBehindDescribeACLsResponseSpec)) fnBehindDescribeACLsResponseCard

/-- THE TIED CARD OF 'laws.FnBehindOffsetFetchResponse'. -/
def fnBehindOffsetFetchResponseCard : Claim7 := { stood := { row := fnBehindOffsetFetchResponseRow, standIns := [], harness := (true, "869630cfb3ed5e5749feb6caac9956a06debc65a05baf994308615864bc378f4"), looks := false }, kinds := [], alts := [], laidByText := true, laidKinds := [.sentinel], laidTests := true, laidLooks := .later }
def FnBehindOffsetFetchResponseCardSaid : Prop := Claim7.holds Tryz.pinned (.plain (OpenSpec.ofChange fnBehindOffsetFetchResponseSpec)) fnBehindOffsetFetchResponseCard

/-- THE SECOND FORM's CARD OF 'laws.FnBehindReadShareGroupStateSummaryRequest'. -/
def fnBehindReadShareGroupStateSummaryRequestUptoCard : Claim7 := { stood := { row := fnBehindReadShareGroupStateSummaryRequestUptoRow, standIns := [], harness := (true, "869630cfb3ed5e5749feb6caac9956a06debc65a05baf994308615864bc378f4"), looks := false }, kinds := [], alts := [], laidByText := true, laidKinds := [.sentinel], laidTests := true, laidLooks := .later }
def FnBehindReadShareGroupStateSummaryRequestUptoCardSaid : Prop := Claim7.holds Tryz.pinned (.plain (OpenSpec.upto fnBehindReadShareGroupStateSummaryRequestSpec)) fnBehindReadShareGroupStateSummaryRequestUptoCard

/-- THE SECOND FORM's CARD OF 'laws.FnBehindGetTelemetrySubscriptionsResponse'. -/
def fnBehindGetTelemetrySubscriptionsResponseUptoCard : Claim7 := { stood := { row := fnBehindGetTelemetrySubscriptionsResponseUptoRow, standIns := [], harness := (true, "869630cfb3ed5e5749feb6caac9956a06debc65a05baf994308615864bc378f4"), looks := false }, kinds := [], alts := [], laidByText := true, laidKinds := [.sentinel], laidTests := true, laidLooks := .later }
def FnBehindGetTelemetrySubscriptionsResponseUptoCardSaid : Prop := Claim7.holds Tryz.pinned (.plain (OpenSpec.upto fnBehindGetTelemetrySubscriptionsResponseSpec)) fnBehindGetTelemetrySubscriptionsResponseUptoCard

/-- THE SECOND FORM's CARD OF 'laws.FnBehindAlterClientQuotasResponse'. -/
def fnBehindAlterClientQuotasResponseUptoCard : Claim7 := { stood := { row := fnBehindAlterClientQuotasResponseUptoRow, standIns := [], harness := (true, "869630cfb3ed5e5749feb6caac9956a06debc65a05baf994308615864bc378f4"), looks := false }, kinds := [], alts := [], laidByText := true, laidKinds := [.sentinel], laidTests := true, laidLooks := .later }
def FnBehindAlterClientQuotasResponseUptoCardSaid : Prop := Claim7.holds Tryz.pinned (.plain (OpenSpec.upto fnBehindAlterClientQuotasResponseSpec)) fnBehindAlterClientQuotasResponseUptoCard

/-- THE SECOND FORM's CARD OF 'laws.FnBehindJoinGroupRequest'. -/
def fnBehindJoinGroupRequestUptoCard : Claim7 := { stood := { row := fnBehindJoinGroupRequestUptoRow, standIns := [], harness := (true, "869630cfb3ed5e5749feb6caac9956a06debc65a05baf994308615864bc378f4"), looks := false }, kinds := [], alts := [], laidByText := true, laidKinds := [.sentinel], laidTests := true, laidLooks := .later }
def FnBehindJoinGroupRequestUptoCardSaid : Prop := Claim7.holds Tryz.pinned (.plain (OpenSpec.upto fnBehindJoinGroupRequestSpec)) fnBehindJoinGroupRequestUptoCard

/-- THE SECOND FORM's CARD OF 'laws.FnBehindDescribeLogDirsResponse'. -/
def fnBehindDescribeLogDirsResponseUptoCard : Claim7 := { stood := { row := fnBehindDescribeLogDirsResponseUptoRow, standIns := [], harness := (true, "869630cfb3ed5e5749feb6caac9956a06debc65a05baf994308615864bc378f4"), looks := false }, kinds := [], alts := [], laidByText := true, laidKinds := [.sentinel], laidTests := true, laidLooks := .later }
def FnBehindDescribeLogDirsResponseUptoCardSaid : Prop := Claim7.holds Tryz.pinned (.plain (OpenSpec.upto fnBehindDescribeLogDirsResponseSpec)) fnBehindDescribeLogDirsResponseUptoCard

/-- THE SECOND FORM's CARD OF 'laws.FnBehindDescribeACLsResponse'. -/
def fnBehindDescribeACLsResponseUptoCard : Claim7 := { stood := { row := fnBehindDescribeACLsResponseUptoRow, standIns := [], harness := (true, "869630cfb3ed5e5749feb6caac9956a06debc65a05baf994308615864bc378f4"), looks := false }, kinds := [], alts := [], laidByText := true, laidKinds := [.sentinel], laidTests := true, laidLooks := .later }
def FnBehindDescribeACLsResponseUptoCardSaid : Prop := Claim7.holds Tryz.pinned (.plain (OpenSpec.upto fnBehindDescribeACLsResponseSpec)) fnBehindDescribeACLsResponseUptoCard

/-- THE SECOND FORM's CARD OF 'laws.FnBehindOffsetFetchResponse'. -/
def fnBehindOffsetFetchResponseUptoCard : Claim7 := { stood := { row := fnBehindOffsetFetchResponseUptoRow, standIns := [], harness := (true, "869630cfb3ed5e5749feb6caac9956a06debc65a05baf994308615864bc378f4"), looks := false }, kinds := [], alts := [], laidByText := true, laidKinds := [.sentinel], laidTests := true, laidLooks := .later }
def FnBehindOffsetFetchResponseUptoCardSaid : Prop := Claim7.holds Tryz.pinned (.plain (OpenSpec.upto fnBehindOffsetFetchResponseSpec)) fnBehindOffsetFetchResponseUptoCard
end Rows
end Go.Proofs.YtgblofcjkgbojaaGreatDoor
