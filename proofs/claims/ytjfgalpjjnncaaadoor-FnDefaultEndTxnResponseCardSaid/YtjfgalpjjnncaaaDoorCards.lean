/-
  DERIVED. GIVEN WITH THE SEED: THE CARDS: each row of YtjfgalpjjnncaaaDoorRows.lean that lists a variable, with what it lists TIED to the program's text (the seventh form; the later family's looks); each row that meets fmt, with fmt's text TOLD by the authors' own Lean function (tested against real Go, not proved from fmt's source: count such statements apart). THE CARD IS WHAT COUNTS. Prove the row's statement (the work); the ties are given (YtjfgalpjjnncaaaDoorTie.lean); close each card by the builder's one call (the guide's Derived/Test/ToyasCard.lean, 'card_holds'). Laid BY PROGRAM, IN A SANDBOX (cutbox-door.mjs). By AI agents, Wed Nov 11 2026. No macro, syntax, notation, axiom, sorry.
-/
import Derived.Test.YtjfgalpjjnncaaaDoorRows
import GoSem.ClaimSeven
namespace Go.Proofs.YtjfgalpjjnncaaaDoor
namespace Rows

/-- THE TIED CARD OF 'laws.FnTellListConfigResourcesRequest'. -/
def fnTellListConfigResourcesRequestCard : Claim7 := { stood := { row := fnTellListConfigResourcesRequestRow, standIns := [], harness := (true, "681b255f437ae1cfb7495b6ff59be6860bfb0ff83bb8e0222cf2f4c56fcbe2f1"), looks := false }, kinds := [], alts := [], laidByText := true, laidKinds := [.sentinel], laidTests := true, laidLooks := .later }
def FnTellListConfigResourcesRequestCardSaid : Prop := Claim7.holds Tryd.pinned (.plain (OpenSpec.ofChange fnTellListConfigResourcesRequestSpec)) fnTellListConfigResourcesRequestCard

/-- THE TIED CARD OF 'laws.FnTellConsumerGroupDescribeRequest'. -/
def fnTellConsumerGroupDescribeRequestCard : Claim7 := { stood := { row := fnTellConsumerGroupDescribeRequestRow, standIns := [], harness := (true, "681b255f437ae1cfb7495b6ff59be6860bfb0ff83bb8e0222cf2f4c56fcbe2f1"), looks := false }, kinds := [], alts := [], laidByText := true, laidKinds := [.sentinel], laidTests := true, laidLooks := .later }
def FnTellConsumerGroupDescribeRequestCardSaid : Prop := Claim7.holds Tryd.pinned (.plain (OpenSpec.ofChange fnTellConsumerGroupDescribeRequestSpec)) fnTellConsumerGroupDescribeRequestCard

/-- THE TIED CARD OF 'laws.FnDefaultDescribeClusterRequest'. -/
def fnDefaultDescribeClusterRequestCard : Claim7 := { stood := { row := fnDefaultDescribeClusterRequestRow, standIns := [], harness := (true, "681b255f437ae1cfb7495b6ff59be6860bfb0ff83bb8e0222cf2f4c56fcbe2f1"), looks := false }, kinds := [], alts := [], laidByText := true, laidKinds := [.sentinel], laidTests := true, laidLooks := .later }
def FnDefaultDescribeClusterRequestCardSaid : Prop := Claim7.holds Tryd.pinned (.plain (OpenSpec.ofChange fnDefaultDescribeClusterRequestSpec)) fnDefaultDescribeClusterRequestCard

/-- THE TIED CARD OF 'laws.FnDefaultAllocateProducerIDsRequest'. -/
def fnDefaultAllocateProducerIDsRequestCard : Claim7 := { stood := { row := fnDefaultAllocateProducerIDsRequestRow, standIns := [], harness := (true, "681b255f437ae1cfb7495b6ff59be6860bfb0ff83bb8e0222cf2f4c56fcbe2f1"), looks := false }, kinds := [], alts := [], laidByText := true, laidKinds := [.sentinel], laidTests := true, laidLooks := .later }
def FnDefaultAllocateProducerIDsRequestCardSaid : Prop := Claim7.holds Tryd.pinned (.plain (OpenSpec.ofChange fnDefaultAllocateProducerIDsRequestSpec)) fnDefaultAllocateProducerIDsRequestCard

/-- THE TIED CARD OF 'laws.FnDefaultEndTxnResponse'. -/
def fnDefaultEndTxnResponseCard : Claim7 := { stood := { row := fnDefaultEndTxnResponseRow, standIns := [], harness := (true, "681b255f437ae1cfb7495b6ff59be6860bfb0ff83bb8e0222cf2f4c56fcbe2f1"), looks := false }, kinds := [], alts := [], laidByText := true, laidKinds := [.sentinel], laidTests := true, laidLooks := .later }
def FnDefaultEndTxnResponseCardSaid : Prop := Claim7.holds Tryd.pinned (.plain (OpenSpec.ofChange fnDefaultEndTxnResponseSpec)) fnDefaultEndTxnResponseCard

/-- THE SECOND FORM's CARD OF 'laws.FnTellListConfigResourcesRequest'. -/
def fnTellListConfigResourcesRequestUptoCard : Claim7 := { stood := { row := fnTellListConfigResourcesRequestUptoRow, standIns := [], harness := (true, "681b255f437ae1cfb7495b6ff59be6860bfb0ff83bb8e0222cf2f4c56fcbe2f1"), looks := false }, kinds := [], alts := [], laidByText := true, laidKinds := [.sentinel], laidTests := true, laidLooks := .later }
def FnTellListConfigResourcesRequestUptoCardSaid : Prop := Claim7.holds Tryd.pinned (.plain (OpenSpec.upto fnTellListConfigResourcesRequestSpec)) fnTellListConfigResourcesRequestUptoCard

/-- THE SECOND FORM's CARD OF 'laws.FnTellConsumerGroupDescribeRequest'. -/
def fnTellConsumerGroupDescribeRequestUptoCard : Claim7 := { stood := { row := fnTellConsumerGroupDescribeRequestUptoRow, standIns := [], harness := (true, "681b255f437ae1cfb7495b6ff59be6860bfb0ff83bb8e0222cf2f4c56fcbe2f1"), looks := false }, kinds := [], alts := [], laidByText := true, laidKinds := [.sentinel], laidTests := true, laidLooks := .later }
def FnTellConsumerGroupDescribeRequestUptoCardSaid : Prop := Claim7.holds Tryd.pinned (.plain (OpenSpec.upto fnTellConsumerGroupDescribeRequestSpec)) fnTellConsumerGroupDescribeRequestUptoCard

/-- THE SECOND FORM's CARD OF 'laws.FnDefaultDescribeClusterRequest'. -/
def fnDefaultDescribeClusterRequestUptoCard : Claim7 := { stood := { row := fnDefaultDescribeClusterRequestUptoRow, standIns := [], harness := (true, "681b255f437ae1cfb7495b6ff59be6860bfb0ff83bb8e0222cf2f4c56fcbe2f1"), looks := false }, kinds := [], alts := [], laidByText := true, laidKinds := [.sentinel], laidTests := true, laidLooks := .later }
def FnDefaultDescribeClusterRequestUptoCardSaid : Prop := Claim7.holds Tryd.pinned (.plain (OpenSpec.upto fnDefaultDescribeClusterRequestSpec)) fnDefaultDescribeClusterRequestUptoCard

/-- THE SECOND FORM's CARD OF 'laws.FnDefaultAllocateProducerIDsRequest'. -/
def fnDefaultAllocateProducerIDsRequestUptoCard : Claim7 := { stood := { row := fnDefaultAllocateProducerIDsRequestUptoRow, standIns := [], harness := (true, "681b255f437ae1cfb7495b6ff59be6860bfb0ff83bb8e0222cf2f4c56fcbe2f1"), looks := false }, kinds := [], alts := [], laidByText := true, laidKinds := [.sentinel], laidTests := true, laidLooks := .later }
def FnDefaultAllocateProducerIDsRequestUptoCardSaid : Prop := Claim7.holds Tryd.pinned (.plain (OpenSpec.upto fnDefaultAllocateProducerIDsRequestSpec)) fnDefaultAllocateProducerIDsRequestUptoCard

/-- THE SECOND FORM's CARD OF 'laws.FnDefaultEndTxnResponse'. -/
def fnDefaultEndTxnResponseUptoCard : Claim7 := { stood := { row := fnDefaultEndTxnResponseUptoRow, standIns := [], harness := (true, "681b255f437ae1cfb7495b6ff59be6860bfb0ff83bb8e0222cf2f4c56fcbe2f1"), looks := false }, kinds := [], alts := [], laidByText := true, laidKinds := [.sentinel], laidTests := true, laidLooks := .later }
def FnDefaultEndTxnResponseUptoCardSaid : Prop := Claim7.holds Tryd.pinned (.plain (OpenSpec.upto fnDefaultEndTxnResponseSpec)) fnDefaultEndTxnResponseUptoCard
end Rows
end Go.Proofs.YtjfgalpjjnncaaaDoor
