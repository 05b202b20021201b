/-
  DERIVED. GIVEN WITH THE SEED: THE CARDS: each row of YtichlhnmbdhkjaaGreatDoorRows.lean that lists a variable, with what it lists TIED to the program's text (the seventh form; the later family's looks); each row that meets fmt, with fmt's text TOLD by the authors' own Lean function (tested against real Go, not proved from fmt's source: count such statements apart). THE CARD IS WHAT COUNTS. Prove the row's statement (the work); the ties are given (YtichlhnmbdhkjaaGreatDoorTie.lean); close each card by the builder's one call (the guide's Derived/Test/ToyasCard.lean, 'card_holds'). Laid BY PROGRAM, IN A SANDBOX (cutbox-door.mjs). By AI agents, Wed Nov 11 2026. No macro, syntax, notation, axiom, sorry.
-/
import Derived.Test.YtichlhnmbdhkjaaGreatDoorRows
import GoSem.ClaimSeven
namespace Go.Proofs.YtichlhnmbdhkjaaGreatDoor
namespace Rows

/-- THE TIED CARD OF 'laws.FnFrameDescribeTransactionsRequest'. -/
def fnFrameDescribeTransactionsRequestCard : Claim7 := { stood := { row := fnFrameDescribeTransactionsRequestRow, standIns := [], harness := (true, "3acc485a71b198802d668294883c89b86ca494b144a5a34c2f9b0bd1adae2f8b"), looks := false }, kinds := [], alts := [], laidByText := true, laidKinds := [.sentinel], laidTests := true, laidLooks := .later }
def FnFrameDescribeTransactionsRequestCardSaid : Prop := Claim7.holds Tryz.pinned (.plain (OpenSpec.ofChange fnFrameDescribeTransactionsRequestSpec)) fnFrameDescribeTransactionsRequestCard

/-- THE TIED CARD OF 'laws.FnFrameDescribeQuorumRequest'. -/
def fnFrameDescribeQuorumRequestCard : Claim7 := { stood := { row := fnFrameDescribeQuorumRequestRow, standIns := [], harness := (true, "3acc485a71b198802d668294883c89b86ca494b144a5a34c2f9b0bd1adae2f8b"), looks := false }, kinds := [], alts := [], laidByText := true, laidKinds := [.sentinel], laidTests := true, laidLooks := .later }
def FnFrameDescribeQuorumRequestCardSaid : Prop := Claim7.holds Tryz.pinned (.plain (OpenSpec.ofChange fnFrameDescribeQuorumRequestSpec)) fnFrameDescribeQuorumRequestCard

/-- THE TIED CARD OF 'laws.FnFrameDeleteRecordsRequest'. -/
def fnFrameDeleteRecordsRequestCard : Claim7 := { stood := { row := fnFrameDeleteRecordsRequestRow, standIns := [], harness := (true, "3acc485a71b198802d668294883c89b86ca494b144a5a34c2f9b0bd1adae2f8b"), looks := false }, kinds := [], alts := [], laidByText := true, laidKinds := [.sentinel], laidTests := true, laidLooks := .later }
def FnFrameDeleteRecordsRequestCardSaid : Prop := Claim7.holds Tryz.pinned (.plain (OpenSpec.ofChange fnFrameDeleteRecordsRequestSpec)) fnFrameDeleteRecordsRequestCard

/-- THE TIED CARD OF 'laws.FnFrameDeleteTopicsRequest'. -/
def fnFrameDeleteTopicsRequestCard : Claim7 := { stood := { row := fnFrameDeleteTopicsRequestRow, standIns := [], harness := (true, "3acc485a71b198802d668294883c89b86ca494b144a5a34c2f9b0bd1adae2f8b"), looks := false }, kinds := [], alts := [], laidByText := true, laidKinds := [.sentinel], laidTests := true, laidLooks := .later }
def FnFrameDeleteTopicsRequestCardSaid : Prop := Claim7.holds Tryz.pinned (.plain (OpenSpec.ofChange fnFrameDeleteTopicsRequestSpec)) fnFrameDeleteTopicsRequestCard

/-- THE TIED CARD OF 'laws.FnFrameStopReplicaRequest'. -/
def fnFrameStopReplicaRequestCard : Claim7 := { stood := { row := fnFrameStopReplicaRequestRow, standIns := [], harness := (true, "3acc485a71b198802d668294883c89b86ca494b144a5a34c2f9b0bd1adae2f8b"), looks := false }, kinds := [], alts := [], laidByText := true, laidKinds := [.sentinel], laidTests := true, laidLooks := .later }
def FnFrameStopReplicaRequestCardSaid : Prop := Claim7.holds Tryz.pinned (.plain (OpenSpec.ofChange fnFrameStopReplicaRequestSpec)) fnFrameStopReplicaRequestCard

/-- THE TIED CARD OF 'laws.FnFrameIncrementalAlterConfigsRequest'. -/
def fnFrameIncrementalAlterConfigsRequestCard : Claim7 := { stood := { row := fnFrameIncrementalAlterConfigsRequestRow, standIns := [], harness := (true, "3acc485a71b198802d668294883c89b86ca494b144a5a34c2f9b0bd1adae2f8b"), looks := false }, kinds := [], alts := [], laidByText := true, laidKinds := [.sentinel], laidTests := true, laidLooks := .later }
def FnFrameIncrementalAlterConfigsRequestCardSaid : Prop := Claim7.holds Tryz.pinned (.plain (OpenSpec.ofChange fnFrameIncrementalAlterConfigsRequestSpec)) fnFrameIncrementalAlterConfigsRequestCard

/-- THE TIED CARD OF 'laws.FnFrameCreateTopicsRequest'. -/
def fnFrameCreateTopicsRequestCard : Claim7 := { stood := { row := fnFrameCreateTopicsRequestRow, standIns := [], harness := (true, "3acc485a71b198802d668294883c89b86ca494b144a5a34c2f9b0bd1adae2f8b"), looks := false }, kinds := [], alts := [], laidByText := true, laidKinds := [.sentinel], laidTests := true, laidLooks := .later }
def FnFrameCreateTopicsRequestCardSaid : Prop := Claim7.holds Tryz.pinned (.plain (OpenSpec.ofChange fnFrameCreateTopicsRequestSpec)) fnFrameCreateTopicsRequestCard

/-- THE SECOND FORM's CARD OF 'laws.FnFrameDescribeTransactionsRequest'. -/
def fnFrameDescribeTransactionsRequestUptoCard : Claim7 := { stood := { row := fnFrameDescribeTransactionsRequestUptoRow, standIns := [], harness := (true, "3acc485a71b198802d668294883c89b86ca494b144a5a34c2f9b0bd1adae2f8b"), looks := false }, kinds := [], alts := [], laidByText := true, laidKinds := [.sentinel], laidTests := true, laidLooks := .later }
def FnFrameDescribeTransactionsRequestUptoCardSaid : Prop := Claim7.holds Tryz.pinned (.plain (OpenSpec.upto fnFrameDescribeTransactionsRequestSpec)) fnFrameDescribeTransactionsRequestUptoCard

/-- THE SECOND FORM's CARD OF 'laws.FnFrameDescribeQuorumRequest'. -/
def fnFrameDescribeQuorumRequestUptoCard : Claim7 := { stood := { row := fnFrameDescribeQuorumRequestUptoRow, standIns := [], harness := (true, "3acc485a71b198802d668294883c89b86ca494b144a5a34c2f9b0bd1adae2f8b"), looks := false }, kinds := [], alts := [], laidByText := true, laidKinds := [.sentinel], laidTests := true, laidLooks := .later }
def FnFrameDescribeQuorumRequestUptoCardSaid : Prop := Claim7.holds Tryz.pinned (.plain (OpenSpec.upto fnFrameDescribeQuorumRequestSpec)) fnFrameDescribeQuorumRequestUptoCard

/-- THE SECOND FORM's CARD OF 'laws.FnFrameDeleteRecordsRequest'. -/
def fnFrameDeleteRecordsRequestUptoCard : Claim7 := { stood := { row := fnFrameDeleteRecordsRequestUptoRow, standIns := [], harness := (true, "3acc485a71b198802d668294883c89b86ca494b144a5a34c2f9b0bd1adae2f8b"), looks := false }, kinds := [], alts := [], laidByText := true, laidKinds := [.sentinel], laidTests := true, laidLooks := .later }
def FnFrameDeleteRecordsRequestUptoCardSaid : Prop := Claim7.holds Tryz.pinned (.plain (OpenSpec.upto fnFrameDeleteRecordsRequestSpec)) fnFrameDeleteRecordsRequestUptoCard

/-- THE SECOND FORM's CARD OF 'laws.FnFrameDeleteTopicsRequest'. -/
def fnFrameDeleteTopicsRequestUptoCard : Claim7 := { stood := { row := fnFrameDeleteTopicsRequestUptoRow, standIns := [], harness := (true, "3acc485a71b198802d668294883c89b86ca494b144a5a34c2f9b0bd1adae2f8b"), looks := false }, kinds := [], alts := [], laidByText := true, laidKinds := [.sentinel], laidTests := true, laidLooks := .later }
def FnFrameDeleteTopicsRequestUptoCardSaid : Prop := Claim7.holds Tryz.pinned (.plain (OpenSpec.upto fnFrameDeleteTopicsRequestSpec)) fnFrameDeleteTopicsRequestUptoCard

/-- THE SECOND FORM's CARD OF 'laws.FnFrameStopReplicaRequest'. -/
def fnFrameStopReplicaRequestUptoCard : Claim7 := { stood := { row := fnFrameStopReplicaRequestUptoRow, standIns := [], harness := (true, "3acc485a71b198802d668294883c89b86ca494b144a5a34c2f9b0bd1adae2f8b"), looks := false }, kinds := [], alts := [], laidByText := true, laidKinds := [.sentinel], laidTests := true, laidLooks := .later }
def FnFrameStopReplicaRequestUptoCardSaid : Prop := Claim7.holds Tryz.pinned (.plain (OpenSpec.upto fnFrameStopReplicaRequestSpec)) fnFrameStopReplicaRequestUptoCard

/-- THE SECOND FORM's CARD OF 'laws.FnFrameIncrementalAlterConfigsRequest'. -/
def fnFrameIncrementalAlterConfigsRequestUptoCard : Claim7 := { stood := { row := fnFrameIncrementalAlterConfigsRequestUptoRow, standIns := [], harness := (true, "3acc485a71b198802d668294883c89b86ca494b144a5a34c2f9b0bd1adae2f8b"), looks := false }, kinds := [], alts := [], laidByText := true, laidKinds := [.sentinel], laidTests := true, laidLooks := .later }
def FnFrameIncrementalAlterConfigsRequestUptoCardSaid : Prop := Claim7.holds Tryz.pinned (.plain (OpenSpec.upto fnFrameIncrementalAlterConfigsRequestSpec)) fnFrameIncrementalAlterConfigsRequestUptoCard

/-- THE SECOND FORM's CARD OF 'laws.FnFrameCreateTopicsRequest'. -/
def fnFrameCreateTopicsRequestUptoCard : Claim7 := { stood := { row := fnFrameCreateTopicsRequestUptoRow, standIns := [], harness := (true, "3acc485a71b198802d668294883c89b86ca494b144a5a34c2f9b0bd1adae2f8b"), looks := false }, kinds := [], alts := [], laidByText := true, laidKinds := [.sentinel], laidTests := true, laidLooks := .later }
def FnFrameCreateTopicsRequestUptoCardSaid : Prop := Claim7.holds Tryz.pinned (.plain (OpenSpec.upto fnFrameCreateTopicsRequestSpec)) fnFrameCreateTopicsRequestUptoCard
end Rows
end Go.Proofs.YtichlhnmbdhkjaaGreatDoor
