/-
  DERIVED. GIVEN WITH THE SEED: THE CARDS: each row of YtoncnffdlejbaaaDoorRows.lean that lists a variable, with what it lists TIED to the program's text (the seventh form; the later family's looks); each row that meets fmt, with fmt's text TOLD by the authors' own Lean function (tested against real Go, not proved from fmt's source: count such statements apart). THE CARD IS WHAT COUNTS. Prove the row's statement (the work); the ties are given (YtoncnffdlejbaaaDoorTie.lean); close each card by the builder's one call (the guide's Derived/Test/ToyasCard.lean, 'card_holds'). Laid BY PROGRAM, IN A SANDBOX (cutbox-door.mjs). By AI agents, Wed Nov 11 2026. No macro, syntax, notation, axiom, sorry.
-/
import Derived.Test.YtoncnffdlejbaaaDoorRows
import GoSem.ClaimSeven
namespace Go.Proofs.YtoncnffdlejbaaaDoor
namespace Rows

/-- THE TIED CARD OF 'laws.FnUnsafeAlterUserSCRAMCredentialsResponse'. -/
def fnUnsafeAlterUserSCRAMCredentialsResponseCard : Claim7 := { stood := { row := fnUnsafeAlterUserSCRAMCredentialsResponseRow, standIns := [], harness := (true, "25f9f3d8ae9b790299d0369a9fa50ef57f9f026c8db833daaa54ac5cc3f8f226"), looks := false }, kinds := [], alts := [], laidByText := true, laidKinds := [.sentinel], laidTests := true, laidLooks := .later }
def FnUnsafeAlterUserSCRAMCredentialsResponseCardSaid : Prop := Claim7.holds Tryd.pinned (.plain (OpenSpec.ofChange fnUnsafeAlterUserSCRAMCredentialsResponseSpec)) fnUnsafeAlterUserSCRAMCredentialsResponseCard

/-- THE TIED CARD OF 'laws.FnUnsafeWriteTxnMarkersResponse'. -/
def fnUnsafeWriteTxnMarkersResponseCard : Claim7 := { stood := { row := fnUnsafeWriteTxnMarkersResponseRow, standIns := [], harness := (true, "25f9f3d8ae9b790299d0369a9fa50ef57f9f026c8db833daaa54ac5cc3f8f226"), looks := false }, kinds := [], alts := [], laidByText := true, laidKinds := [.sentinel], laidTests := true, laidLooks := .later }
def FnUnsafeWriteTxnMarkersResponseCardSaid : Prop := Claim7.holds Tryd.pinned (.plain (OpenSpec.ofChange fnUnsafeWriteTxnMarkersResponseSpec)) fnUnsafeWriteTxnMarkersResponseCard

/-- THE TIED CARD OF 'laws.FnUnsafeAlterShareGroupOffsetsRequest'. -/
def fnUnsafeAlterShareGroupOffsetsRequestCard : Claim7 := { stood := { row := fnUnsafeAlterShareGroupOffsetsRequestRow, standIns := [], harness := (true, "25f9f3d8ae9b790299d0369a9fa50ef57f9f026c8db833daaa54ac5cc3f8f226"), looks := false }, kinds := [], alts := [], laidByText := true, laidKinds := [.sentinel], laidTests := true, laidLooks := .later }
def FnUnsafeAlterShareGroupOffsetsRequestCardSaid : Prop := Claim7.holds Tryd.pinned (.plain (OpenSpec.ofChange fnUnsafeAlterShareGroupOffsetsRequestSpec)) fnUnsafeAlterShareGroupOffsetsRequestCard

/-- THE TIED CARD OF 'laws.FnUnsafeUpdateRaftVoterResponse'. -/
def fnUnsafeUpdateRaftVoterResponseCard : Claim7 := { stood := { row := fnUnsafeUpdateRaftVoterResponseRow, standIns := [], harness := (true, "25f9f3d8ae9b790299d0369a9fa50ef57f9f026c8db833daaa54ac5cc3f8f226"), looks := false }, kinds := [], alts := [], laidByText := true, laidKinds := [.sentinel], laidTests := true, laidLooks := .later }
def FnUnsafeUpdateRaftVoterResponseCardSaid : Prop := Claim7.holds Tryd.pinned (.plain (OpenSpec.ofChange fnUnsafeUpdateRaftVoterResponseSpec)) fnUnsafeUpdateRaftVoterResponseCard

/-- THE TIED CARD OF 'laws.FnUnsafePushTelemetryResponse'. -/
def fnUnsafePushTelemetryResponseCard : Claim7 := { stood := { row := fnUnsafePushTelemetryResponseRow, standIns := [], harness := (true, "25f9f3d8ae9b790299d0369a9fa50ef57f9f026c8db833daaa54ac5cc3f8f226"), looks := false }, kinds := [], alts := [], laidByText := true, laidKinds := [.sentinel], laidTests := true, laidLooks := .later }
def FnUnsafePushTelemetryResponseCardSaid : Prop := Claim7.holds Tryd.pinned (.plain (OpenSpec.ofChange fnUnsafePushTelemetryResponseSpec)) fnUnsafePushTelemetryResponseCard

/-- THE SECOND FORM's CARD OF 'laws.FnUnsafeAlterUserSCRAMCredentialsResponse'. -/
def fnUnsafeAlterUserSCRAMCredentialsResponseUptoCard : Claim7 := { stood := { row := fnUnsafeAlterUserSCRAMCredentialsResponseUptoRow, standIns := [], harness := (true, "25f9f3d8ae9b790299d0369a9fa50ef57f9f026c8db833daaa54ac5cc3f8f226"), looks := false }, kinds := [], alts := [], laidByText := true, laidKinds := [.sentinel], laidTests := true, laidLooks := .later }
def FnUnsafeAlterUserSCRAMCredentialsResponseUptoCardSaid : Prop := Claim7.holds Tryd.pinned (.plain (OpenSpec.upto fnUnsafeAlterUserSCRAMCredentialsResponseSpec)) fnUnsafeAlterUserSCRAMCredentialsResponseUptoCard

/-- THE SECOND FORM's CARD OF 'laws.FnUnsafeWriteTxnMarkersResponse'. -/
def fnUnsafeWriteTxnMarkersResponseUptoCard : Claim7 := { stood := { row := fnUnsafeWriteTxnMarkersResponseUptoRow, standIns := [], harness := (true, "25f9f3d8ae9b790299d0369a9fa50ef57f9f026c8db833daaa54ac5cc3f8f226"), looks := false }, kinds := [], alts := [], laidByText := true, laidKinds := [.sentinel], laidTests := true, laidLooks := .later }
def FnUnsafeWriteTxnMarkersResponseUptoCardSaid : Prop := Claim7.holds Tryd.pinned (.plain (OpenSpec.upto fnUnsafeWriteTxnMarkersResponseSpec)) fnUnsafeWriteTxnMarkersResponseUptoCard

/-- THE SECOND FORM's CARD OF 'laws.FnUnsafeAlterShareGroupOffsetsRequest'. -/
def fnUnsafeAlterShareGroupOffsetsRequestUptoCard : Claim7 := { stood := { row := fnUnsafeAlterShareGroupOffsetsRequestUptoRow, standIns := [], harness := (true, "25f9f3d8ae9b790299d0369a9fa50ef57f9f026c8db833daaa54ac5cc3f8f226"), looks := false }, kinds := [], alts := [], laidByText := true, laidKinds := [.sentinel], laidTests := true, laidLooks := .later }
def FnUnsafeAlterShareGroupOffsetsRequestUptoCardSaid : Prop := Claim7.holds Tryd.pinned (.plain (OpenSpec.upto fnUnsafeAlterShareGroupOffsetsRequestSpec)) fnUnsafeAlterShareGroupOffsetsRequestUptoCard

/-- THE SECOND FORM's CARD OF 'laws.FnUnsafeUpdateRaftVoterResponse'. -/
def fnUnsafeUpdateRaftVoterResponseUptoCard : Claim7 := { stood := { row := fnUnsafeUpdateRaftVoterResponseUptoRow, standIns := [], harness := (true, "25f9f3d8ae9b790299d0369a9fa50ef57f9f026c8db833daaa54ac5cc3f8f226"), looks := false }, kinds := [], alts := [], laidByText := true, laidKinds := [.sentinel], laidTests := true, laidLooks := .later }
def FnUnsafeUpdateRaftVoterResponseUptoCardSaid : Prop := Claim7.holds Tryd.pinned (.plain (OpenSpec.upto fnUnsafeUpdateRaftVoterResponseSpec)) fnUnsafeUpdateRaftVoterResponseUptoCard

/-- THE SECOND FORM's CARD OF 'laws.FnUnsafePushTelemetryResponse'. -/
def fnUnsafePushTelemetryResponseUptoCard : Claim7 := { stood := { row := fnUnsafePushTelemetryResponseUptoRow, standIns := [], harness := (true, "25f9f3d8ae9b790299d0369a9fa50ef57f9f026c8db833daaa54ac5cc3f8f226"), looks := false }, kinds := [], alts := [], laidByText := true, laidKinds := [.sentinel], laidTests := true, laidLooks := .later }
def FnUnsafePushTelemetryResponseUptoCardSaid : Prop := Claim7.holds Tryd.pinned (.plain (OpenSpec.upto fnUnsafePushTelemetryResponseSpec)) fnUnsafePushTelemetryResponseUptoCard
end Rows
end Go.Proofs.YtoncnffdlejbaaaDoor
