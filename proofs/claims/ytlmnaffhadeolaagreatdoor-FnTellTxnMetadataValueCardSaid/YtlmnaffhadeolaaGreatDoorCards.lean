/-
  DERIVED. GIVEN WITH THE SEED: THE CARDS: each row of YtlmnaffhadeolaaGreatDoorRows.lean that lists a variable, with what it lists TIED to the program's text (the seventh form; the later family's looks); each row that meets fmt, with fmt's text TOLD by the authors' own Lean function (tested against real Go, not proved from fmt's source: count such statements apart). THE CARD IS WHAT COUNTS. Prove the row's statement (the work); the ties are given (YtlmnaffhadeolaaGreatDoorTie.lean); close each card by the builder's one call (the guide's Derived/Test/ToyasCard.lean, 'card_holds'). Laid BY PROGRAM, IN A SANDBOX (cutbox-door.mjs). By AI agents, Wed Nov 11 2026. No macro, syntax, notation, axiom, sorry.
-/
import Derived.Test.YtlmnaffhadeolaaGreatDoorRows
import GoSem.ClaimSeven
namespace Go.Proofs.YtlmnaffhadeolaaGreatDoor
namespace Rows

/-- THE TIED CARD OF 'laws.FnTellTxnMetadataValue'. -/
def fnTellTxnMetadataValueCard : Claim7 := { stood := { row := fnTellTxnMetadataValueRow, standIns := [], harness := (true, "951202c2ee62a2485c2c11205be3cb855fe0e9b9b0ed7893dd37afa4e79e5067"), looks := false }, kinds := [], alts := [], laidByText := true, laidKinds := [.sentinel], laidTests := true, laidLooks := .later }
def FnTellTxnMetadataValueCardSaid : Prop := Claim7.holds Tryz.pinned (.plain (OpenSpec.ofChange fnTellTxnMetadataValueSpec)) fnTellTxnMetadataValueCard

/-- THE TIED CARD OF 'laws.FnUnsafeGroupMetadataValue'. -/
def fnUnsafeGroupMetadataValueCard : Claim7 := { stood := { row := fnUnsafeGroupMetadataValueRow, standIns := [], harness := (true, "951202c2ee62a2485c2c11205be3cb855fe0e9b9b0ed7893dd37afa4e79e5067"), looks := false }, kinds := [], alts := [], laidByText := true, laidKinds := [.sentinel], laidTests := true, laidLooks := .later }
def FnUnsafeGroupMetadataValueCardSaid : Prop := Claim7.holds Tryz.pinned (.plain (OpenSpec.ofChange fnUnsafeGroupMetadataValueSpec)) fnUnsafeGroupMetadataValueCard

/-- THE TIED CARD OF 'laws.FnBehindProduceRequest'. -/
def fnBehindProduceRequestCard : Claim7 := { stood := { row := fnBehindProduceRequestRow, standIns := [], harness := (true, "951202c2ee62a2485c2c11205be3cb855fe0e9b9b0ed7893dd37afa4e79e5067"), looks := false }, kinds := [], alts := [], laidByText := true, laidKinds := [.sentinel], laidTests := true, laidLooks := .later }
def FnBehindProduceRequestCardSaid : Prop := Claim7.holds Tryz.pinned (.plain (OpenSpec.ofChange fnBehindProduceRequestSpec)) fnBehindProduceRequestCard

/-- THE TIED CARD OF 'laws.FnDefaultMetadataResponse'. -/
def fnDefaultMetadataResponseCard : Claim7 := { stood := { row := fnDefaultMetadataResponseRow, standIns := [], harness := (true, "951202c2ee62a2485c2c11205be3cb855fe0e9b9b0ed7893dd37afa4e79e5067"), looks := false }, kinds := [], alts := [], laidByText := true, laidKinds := [.sentinel], laidTests := true, laidLooks := .later }
def FnDefaultMetadataResponseCardSaid : Prop := Claim7.holds Tryz.pinned (.plain (OpenSpec.ofChange fnDefaultMetadataResponseSpec)) fnDefaultMetadataResponseCard

/-- THE SECOND FORM's CARD OF 'laws.FnTellTxnMetadataValue'. -/
def fnTellTxnMetadataValueUptoCard : Claim7 := { stood := { row := fnTellTxnMetadataValueUptoRow, standIns := [], harness := (true, "951202c2ee62a2485c2c11205be3cb855fe0e9b9b0ed7893dd37afa4e79e5067"), looks := false }, kinds := [], alts := [], laidByText := true, laidKinds := [.sentinel], laidTests := true, laidLooks := .later }
def FnTellTxnMetadataValueUptoCardSaid : Prop := Claim7.holds Tryz.pinned (.plain (OpenSpec.upto fnTellTxnMetadataValueSpec)) fnTellTxnMetadataValueUptoCard

/-- THE SECOND FORM's CARD OF 'laws.FnUnsafeGroupMetadataValue'. -/
def fnUnsafeGroupMetadataValueUptoCard : Claim7 := { stood := { row := fnUnsafeGroupMetadataValueUptoRow, standIns := [], harness := (true, "951202c2ee62a2485c2c11205be3cb855fe0e9b9b0ed7893dd37afa4e79e5067"), looks := false }, kinds := [], alts := [], laidByText := true, laidKinds := [.sentinel], laidTests := true, laidLooks := .later }
def FnUnsafeGroupMetadataValueUptoCardSaid : Prop := Claim7.holds Tryz.pinned (.plain (OpenSpec.upto fnUnsafeGroupMetadataValueSpec)) fnUnsafeGroupMetadataValueUptoCard

/-- THE SECOND FORM's CARD OF 'laws.FnBehindProduceRequest'. -/
def fnBehindProduceRequestUptoCard : Claim7 := { stood := { row := fnBehindProduceRequestUptoRow, standIns := [], harness := (true, "951202c2ee62a2485c2c11205be3cb855fe0e9b9b0ed7893dd37afa4e79e5067"), looks := false }, kinds := [], alts := [], laidByText := true, laidKinds := [.sentinel], laidTests := true, laidLooks := .later }
def FnBehindProduceRequestUptoCardSaid : Prop := Claim7.holds Tryz.pinned (.plain (OpenSpec.upto fnBehindProduceRequestSpec)) fnBehindProduceRequestUptoCard

/-- THE SECOND FORM's CARD OF 'laws.FnDefaultMetadataResponse'. -/
def fnDefaultMetadataResponseUptoCard : Claim7 := { stood := { row := fnDefaultMetadataResponseUptoRow, standIns := [], harness := (true, "951202c2ee62a2485c2c11205be3cb855fe0e9b9b0ed7893dd37afa4e79e5067"), looks := false }, kinds := [], alts := [], laidByText := true, laidKinds := [.sentinel], laidTests := true, laidLooks := .later }
def FnDefaultMetadataResponseUptoCardSaid : Prop := Claim7.holds Tryz.pinned (.plain (OpenSpec.upto fnDefaultMetadataResponseSpec)) fnDefaultMetadataResponseUptoCard
end Rows
end Go.Proofs.YtlmnaffhadeolaaGreatDoor
