/-
  DERIVED. GIVEN WITH THE SEED: THE CARDS: each row of YtjfgalpjjnncaaaGreatDoorRows.lean that lists a variable, with what it lists TIED to the program's text (the seventh form; the later family's looks); each row that meets fmt, with fmt's text TOLD by the authors' own Lean function (tested against real Go, not proved from fmt's source: count such statements apart). THE CARD IS WHAT COUNTS. Prove the row's statement (the work); the ties are given (YtjfgalpjjnncaaaGreatDoorTie.lean); close each card by the builder's one call (the guide's Derived/Test/ToyasCard.lean, 'card_holds'). Laid BY PROGRAM, IN A SANDBOX (cutbox-door.mjs). By AI agents, Wed Nov 11 2026. No macro, syntax, notation, axiom, sorry.
-/
import Derived.Test.YtjfgalpjjnncaaaGreatDoorRows
import GoSem.ClaimSeven
namespace Go.Proofs.YtjfgalpjjnncaaaGreatDoor
namespace Rows

/-- THE TIED CARD OF 'laws.FnTellListPartitionReassignmentsRequest'. -/
def fnTellListPartitionReassignmentsRequestCard : Claim7 := { stood := { row := fnTellListPartitionReassignmentsRequestRow, standIns := [], harness := (true, "34d55a639dfff1fb922d6cfe312e7c34f7caa7ddffb37353c4e1b785632a1dc2"), looks := false }, kinds := [], alts := [], laidByText := true, laidKinds := [.sentinel], laidTests := true, laidLooks := .later }
def FnTellListPartitionReassignmentsRequestCardSaid : Prop := Claim7.holds Tryz.pinned (.plain (OpenSpec.ofChange fnTellListPartitionReassignmentsRequestSpec)) fnTellListPartitionReassignmentsRequestCard

/-- THE TIED CARD OF 'laws.FnTellListGroupsResponse'. -/
def fnTellListGroupsResponseCard : Claim7 := { stood := { row := fnTellListGroupsResponseRow, standIns := [], harness := (true, "34d55a639dfff1fb922d6cfe312e7c34f7caa7ddffb37353c4e1b785632a1dc2"), looks := false }, kinds := [], alts := [], laidByText := true, laidKinds := [.sentinel], laidTests := true, laidLooks := .later }
def FnTellListGroupsResponseCardSaid : Prop := Claim7.holds Tryz.pinned (.plain (OpenSpec.ofChange fnTellListGroupsResponseSpec)) fnTellListGroupsResponseCard

/-- THE TIED CARD OF 'laws.FnTellAssignReplicasToDirsRequest'. -/
def fnTellAssignReplicasToDirsRequestCard : Claim7 := { stood := { row := fnTellAssignReplicasToDirsRequestRow, standIns := [], harness := (true, "34d55a639dfff1fb922d6cfe312e7c34f7caa7ddffb37353c4e1b785632a1dc2"), looks := false }, kinds := [], alts := [], laidByText := true, laidKinds := [.sentinel], laidTests := true, laidLooks := .later }
def FnTellAssignReplicasToDirsRequestCardSaid : Prop := Claim7.holds Tryz.pinned (.plain (OpenSpec.ofChange fnTellAssignReplicasToDirsRequestSpec)) fnTellAssignReplicasToDirsRequestCard

/-- THE TIED CARD OF 'laws.FnTellCreatePartitionsRequest'. -/
def fnTellCreatePartitionsRequestCard : Claim7 := { stood := { row := fnTellCreatePartitionsRequestRow, standIns := [], harness := (true, "34d55a639dfff1fb922d6cfe312e7c34f7caa7ddffb37353c4e1b785632a1dc2"), looks := false }, kinds := [], alts := [], laidByText := true, laidKinds := [.sentinel], laidTests := true, laidLooks := .later }
def FnTellCreatePartitionsRequestCardSaid : Prop := Claim7.holds Tryz.pinned (.plain (OpenSpec.ofChange fnTellCreatePartitionsRequestSpec)) fnTellCreatePartitionsRequestCard

/-- THE TIED CARD OF 'laws.FnTellAlterPartitionResponse'. -/
def fnTellAlterPartitionResponseCard : Claim7 := { stood := { row := fnTellAlterPartitionResponseRow, standIns := [], harness := (true, "34d55a639dfff1fb922d6cfe312e7c34f7caa7ddffb37353c4e1b785632a1dc2"), looks := false }, kinds := [], alts := [], laidByText := true, laidKinds := [.sentinel], laidTests := true, laidLooks := .later }
def FnTellAlterPartitionResponseCardSaid : Prop := Claim7.holds Tryz.pinned (.plain (OpenSpec.ofChange fnTellAlterPartitionResponseSpec)) fnTellAlterPartitionResponseCard

/-- THE TIED CARD OF 'laws.FnTellTxnMetadataValue'. -/
def fnTellTxnMetadataValueCard : Claim7 := { stood := { row := fnTellTxnMetadataValueRow, standIns := [], harness := (true, "34d55a639dfff1fb922d6cfe312e7c34f7caa7ddffb37353c4e1b785632a1dc2"), looks := false }, kinds := [], alts := [], laidByText := true, laidKinds := [.sentinel], laidTests := true, laidLooks := .later }
def FnTellTxnMetadataValueCardSaid : Prop := Claim7.holds Tryz.pinned (.plain (OpenSpec.ofChange fnTellTxnMetadataValueSpec)) fnTellTxnMetadataValueCard

/-- THE TIED CARD OF 'laws.FnDefaultAlterPartitionAssignmentsRequest'. -/
def fnDefaultAlterPartitionAssignmentsRequestCard : Claim7 := { stood := { row := fnDefaultAlterPartitionAssignmentsRequestRow, standIns := [], harness := (true, "34d55a639dfff1fb922d6cfe312e7c34f7caa7ddffb37353c4e1b785632a1dc2"), looks := false }, kinds := [], alts := [], laidByText := true, laidKinds := [.sentinel], laidTests := true, laidLooks := .later }
def FnDefaultAlterPartitionAssignmentsRequestCardSaid : Prop := Claim7.holds Tryz.pinned (.plain (OpenSpec.ofChange fnDefaultAlterPartitionAssignmentsRequestSpec)) fnDefaultAlterPartitionAssignmentsRequestCard

/-- THE SECOND FORM's CARD OF 'laws.FnTellListPartitionReassignmentsRequest'. -/
def fnTellListPartitionReassignmentsRequestUptoCard : Claim7 := { stood := { row := fnTellListPartitionReassignmentsRequestUptoRow, standIns := [], harness := (true, "34d55a639dfff1fb922d6cfe312e7c34f7caa7ddffb37353c4e1b785632a1dc2"), looks := false }, kinds := [], alts := [], laidByText := true, laidKinds := [.sentinel], laidTests := true, laidLooks := .later }
def FnTellListPartitionReassignmentsRequestUptoCardSaid : Prop := Claim7.holds Tryz.pinned (.plain (OpenSpec.upto fnTellListPartitionReassignmentsRequestSpec)) fnTellListPartitionReassignmentsRequestUptoCard

/-- THE SECOND FORM's CARD OF 'laws.FnTellListGroupsResponse'. -/
def fnTellListGroupsResponseUptoCard : Claim7 := { stood := { row := fnTellListGroupsResponseUptoRow, standIns := [], harness := (true, "34d55a639dfff1fb922d6cfe312e7c34f7caa7ddffb37353c4e1b785632a1dc2"), looks := false }, kinds := [], alts := [], laidByText := true, laidKinds := [.sentinel], laidTests := true, laidLooks := .later }
def FnTellListGroupsResponseUptoCardSaid : Prop := Claim7.holds Tryz.pinned (.plain (OpenSpec.upto fnTellListGroupsResponseSpec)) fnTellListGroupsResponseUptoCard

/-- THE SECOND FORM's CARD OF 'laws.FnTellAssignReplicasToDirsRequest'. -/
def fnTellAssignReplicasToDirsRequestUptoCard : Claim7 := { stood := { row := fnTellAssignReplicasToDirsRequestUptoRow, standIns := [], harness := (true, "34d55a639dfff1fb922d6cfe312e7c34f7caa7ddffb37353c4e1b785632a1dc2"), looks := false }, kinds := [], alts := [], laidByText := true, laidKinds := [.sentinel], laidTests := true, laidLooks := .later }
def FnTellAssignReplicasToDirsRequestUptoCardSaid : Prop := Claim7.holds Tryz.pinned (.plain (OpenSpec.upto fnTellAssignReplicasToDirsRequestSpec)) fnTellAssignReplicasToDirsRequestUptoCard

/-- THE SECOND FORM's CARD OF 'laws.FnTellCreatePartitionsRequest'. -/
def fnTellCreatePartitionsRequestUptoCard : Claim7 := { stood := { row := fnTellCreatePartitionsRequestUptoRow, standIns := [], harness := (true, "34d55a639dfff1fb922d6cfe312e7c34f7caa7ddffb37353c4e1b785632a1dc2"), looks := false }, kinds := [], alts := [], laidByText := true, laidKinds := [.sentinel], laidTests := true, laidLooks := .later }
def FnTellCreatePartitionsRequestUptoCardSaid : Prop := Claim7.holds Tryz.pinned (.plain (OpenSpec.upto fnTellCreatePartitionsRequestSpec)) fnTellCreatePartitionsRequestUptoCard

/-- THE SECOND FORM's CARD OF 'laws.FnTellAlterPartitionResponse'. -/
def fnTellAlterPartitionResponseUptoCard : Claim7 := { stood := { row := fnTellAlterPartitionResponseUptoRow, standIns := [], harness := (true, "34d55a639dfff1fb922d6cfe312e7c34f7caa7ddffb37353c4e1b785632a1dc2"), looks := false }, kinds := [], alts := [], laidByText := true, laidKinds := [.sentinel], laidTests := true, laidLooks := .later }
def FnTellAlterPartitionResponseUptoCardSaid : Prop := Claim7.holds Tryz.pinned (.plain (OpenSpec.upto fnTellAlterPartitionResponseSpec)) fnTellAlterPartitionResponseUptoCard

/-- THE SECOND FORM's CARD OF 'laws.FnTellTxnMetadataValue'. -/
def fnTellTxnMetadataValueUptoCard : Claim7 := { stood := { row := fnTellTxnMetadataValueUptoRow, standIns := [], harness := (true, "34d55a639dfff1fb922d6cfe312e7c34f7caa7ddffb37353c4e1b785632a1dc2"), looks := false }, kinds := [], alts := [], laidByText := true, laidKinds := [.sentinel], laidTests := true, laidLooks := .later }
def FnTellTxnMetadataValueUptoCardSaid : Prop := Claim7.holds Tryz.pinned (.plain (OpenSpec.upto fnTellTxnMetadataValueSpec)) fnTellTxnMetadataValueUptoCard

/-- THE SECOND FORM's CARD OF 'laws.FnDefaultAlterPartitionAssignmentsRequest'. -/
def fnDefaultAlterPartitionAssignmentsRequestUptoCard : Claim7 := { stood := { row := fnDefaultAlterPartitionAssignmentsRequestUptoRow, standIns := [], harness := (true, "34d55a639dfff1fb922d6cfe312e7c34f7caa7ddffb37353c4e1b785632a1dc2"), looks := false }, kinds := [], alts := [], laidByText := true, laidKinds := [.sentinel], laidTests := true, laidLooks := .later }
def FnDefaultAlterPartitionAssignmentsRequestUptoCardSaid : Prop := Claim7.holds Tryz.pinned (.plain (OpenSpec.upto fnDefaultAlterPartitionAssignmentsRequestSpec)) fnDefaultAlterPartitionAssignmentsRequestUptoCard
end Rows
end Go.Proofs.YtjfgalpjjnncaaaGreatDoor
