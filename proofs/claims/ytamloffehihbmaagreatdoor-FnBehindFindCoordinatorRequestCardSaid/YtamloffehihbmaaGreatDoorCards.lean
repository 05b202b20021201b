/-
  DERIVED. GIVEN WITH THE SEED: THE CARDS: each row of YtamloffehihbmaaGreatDoorRows.lean that lists a variable, with what it lists TIED to the program's text (the seventh form; the later family's looks); each row that meets fmt, with fmt's text TOLD by the authors' own Lean function (tested against real Go, not proved from fmt's source: count such statements apart). THE CARD IS WHAT COUNTS. Prove the row's statement (the work); the ties are given (YtamloffehihbmaaGreatDoorTie.lean); close each card by the builder's one call (the guide's Derived/Test/ToyasCard.lean, 'card_holds'). Laid BY PROGRAM, IN A SANDBOX (cutbox-door.mjs). By AI agents, Wed Nov 11 2026. No macro, syntax, notation, axiom, sorry.
-/
import Derived.Test.YtamloffehihbmaaGreatDoorRows
import GoSem.ClaimSeven
namespace Go.Proofs.YtamloffehihbmaaGreatDoor
namespace Rows

/-- THE TIED CARD OF 'laws.FnBehindRemoveRaftVoterResponse'. -/
def fnBehindRemoveRaftVoterResponseCard : Claim7 := { stood := { row := fnBehindRemoveRaftVoterResponseRow, standIns := [], harness := (true, "e0ceaac38748b5f3b27abb47fc469f9b4e032a0dd5d5dd64b89fb519f510ba79"), looks := false }, kinds := [], alts := [], laidByText := true, laidKinds := [.sentinel], laidTests := true, laidLooks := .later }
def FnBehindRemoveRaftVoterResponseCardSaid : Prop := Claim7.holds Tryz.pinned (.plain (OpenSpec.ofChange fnBehindRemoveRaftVoterResponseSpec)) fnBehindRemoveRaftVoterResponseCard

/-- THE TIED CARD OF 'laws.FnBehindUnregisterControllerResponse'. -/
def fnBehindUnregisterControllerResponseCard : Claim7 := { stood := { row := fnBehindUnregisterControllerResponseRow, standIns := [], harness := (true, "e0ceaac38748b5f3b27abb47fc469f9b4e032a0dd5d5dd64b89fb519f510ba79"), looks := false }, kinds := [], alts := [], laidByText := true, laidKinds := [.sentinel], laidTests := true, laidLooks := .later }
def FnBehindUnregisterControllerResponseCardSaid : Prop := Claim7.holds Tryz.pinned (.plain (OpenSpec.ofChange fnBehindUnregisterControllerResponseSpec)) fnBehindUnregisterControllerResponseCard

/-- THE TIED CARD OF 'laws.FnBehindDescribeGroupsRequest'. -/
def fnBehindDescribeGroupsRequestCard : Claim7 := { stood := { row := fnBehindDescribeGroupsRequestRow, standIns := [], harness := (true, "e0ceaac38748b5f3b27abb47fc469f9b4e032a0dd5d5dd64b89fb519f510ba79"), looks := false }, kinds := [], alts := [], laidByText := true, laidKinds := [.sentinel], laidTests := true, laidLooks := .later }
def FnBehindDescribeGroupsRequestCardSaid : Prop := Claim7.holds Tryz.pinned (.plain (OpenSpec.ofChange fnBehindDescribeGroupsRequestSpec)) fnBehindDescribeGroupsRequestCard

/-- THE TIED CARD OF 'laws.FnBehindFindCoordinatorRequest'. -/
def fnBehindFindCoordinatorRequestCard : Claim7 := { stood := { row := fnBehindFindCoordinatorRequestRow, standIns := [], harness := (true, "e0ceaac38748b5f3b27abb47fc469f9b4e032a0dd5d5dd64b89fb519f510ba79"), looks := false }, kinds := [], alts := [], laidByText := true, laidKinds := [.sentinel], laidTests := true, laidLooks := .later }
def FnBehindFindCoordinatorRequestCardSaid : Prop := Claim7.holds Tryz.pinned (.plain (OpenSpec.ofChange fnBehindFindCoordinatorRequestSpec)) fnBehindFindCoordinatorRequestCard

/-- THE TIED CARD OF 'laws.FnBehindSyncGroupResponse'. -/
def fnBehindSyncGroupResponseCard : Claim7 := { stood := { row := fnBehindSyncGroupResponseRow, standIns := [], harness := (true, "e0ceaac38748b5f3b27abb47fc469f9b4e032a0dd5d5dd64b89fb519f510ba79"), looks := false }, kinds := [], alts := [], laidByText := true, laidKinds := [.sentinel], laidTests := true, laidLooks := .later }
def FnBehindSyncGroupResponseCardSaid : Prop := Claim7.holds Tryz.pinned (.plain (OpenSpec.ofChange fnBehindSyncGroupResponseSpec)) fnBehindSyncGroupResponseCard

/-- THE SECOND FORM's CARD OF 'laws.FnBehindRemoveRaftVoterResponse'. -/
def fnBehindRemoveRaftVoterResponseUptoCard : Claim7 := { stood := { row := fnBehindRemoveRaftVoterResponseUptoRow, standIns := [], harness := (true, "e0ceaac38748b5f3b27abb47fc469f9b4e032a0dd5d5dd64b89fb519f510ba79"), looks := false }, kinds := [], alts := [], laidByText := true, laidKinds := [.sentinel], laidTests := true, laidLooks := .later }
def FnBehindRemoveRaftVoterResponseUptoCardSaid : Prop := Claim7.holds Tryz.pinned (.plain (OpenSpec.upto fnBehindRemoveRaftVoterResponseSpec)) fnBehindRemoveRaftVoterResponseUptoCard

/-- THE SECOND FORM's CARD OF 'laws.FnBehindUnregisterControllerResponse'. -/
def fnBehindUnregisterControllerResponseUptoCard : Claim7 := { stood := { row := fnBehindUnregisterControllerResponseUptoRow, standIns := [], harness := (true, "e0ceaac38748b5f3b27abb47fc469f9b4e032a0dd5d5dd64b89fb519f510ba79"), looks := false }, kinds := [], alts := [], laidByText := true, laidKinds := [.sentinel], laidTests := true, laidLooks := .later }
def FnBehindUnregisterControllerResponseUptoCardSaid : Prop := Claim7.holds Tryz.pinned (.plain (OpenSpec.upto fnBehindUnregisterControllerResponseSpec)) fnBehindUnregisterControllerResponseUptoCard

/-- THE SECOND FORM's CARD OF 'laws.FnBehindDescribeGroupsRequest'. -/
def fnBehindDescribeGroupsRequestUptoCard : Claim7 := { stood := { row := fnBehindDescribeGroupsRequestUptoRow, standIns := [], harness := (true, "e0ceaac38748b5f3b27abb47fc469f9b4e032a0dd5d5dd64b89fb519f510ba79"), looks := false }, kinds := [], alts := [], laidByText := true, laidKinds := [.sentinel], laidTests := true, laidLooks := .later }
def FnBehindDescribeGroupsRequestUptoCardSaid : Prop := Claim7.holds Tryz.pinned (.plain (OpenSpec.upto fnBehindDescribeGroupsRequestSpec)) fnBehindDescribeGroupsRequestUptoCard

/-- THE SECOND FORM's CARD OF 'laws.FnBehindFindCoordinatorRequest'. -/
def fnBehindFindCoordinatorRequestUptoCard : Claim7 := { stood := { row := fnBehindFindCoordinatorRequestUptoRow, standIns := [], harness := (true, "e0ceaac38748b5f3b27abb47fc469f9b4e032a0dd5d5dd64b89fb519f510ba79"), looks := false }, kinds := [], alts := [], laidByText := true, laidKinds := [.sentinel], laidTests := true, laidLooks := .later }
def FnBehindFindCoordinatorRequestUptoCardSaid : Prop := Claim7.holds Tryz.pinned (.plain (OpenSpec.upto fnBehindFindCoordinatorRequestSpec)) fnBehindFindCoordinatorRequestUptoCard

/-- THE SECOND FORM's CARD OF 'laws.FnBehindSyncGroupResponse'. -/
def fnBehindSyncGroupResponseUptoCard : Claim7 := { stood := { row := fnBehindSyncGroupResponseUptoRow, standIns := [], harness := (true, "e0ceaac38748b5f3b27abb47fc469f9b4e032a0dd5d5dd64b89fb519f510ba79"), looks := false }, kinds := [], alts := [], laidByText := true, laidKinds := [.sentinel], laidTests := true, laidLooks := .later }
def FnBehindSyncGroupResponseUptoCardSaid : Prop := Claim7.holds Tryz.pinned (.plain (OpenSpec.upto fnBehindSyncGroupResponseSpec)) fnBehindSyncGroupResponseUptoCard
end Rows
end Go.Proofs.YtamloffehihbmaaGreatDoor
