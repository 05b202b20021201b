/-
  DERIVED. GIVEN WITH THE SEED: THE CARDS: each row of YtgjplodgdgaakaaGreatDoorRows.lean that lists a variable, with what it lists TIED to the program's text (the seventh form; the later family's looks); each row that meets fmt, with fmt's text TOLD by the authors' own Lean function (tested against real Go, not proved from fmt's source: count such statements apart). THE CARD IS WHAT COUNTS. Prove the row's statement (the work); the ties are given (YtgjplodgdgaakaaGreatDoorTie.lean); close each card by the builder's one call (the guide's Derived/Test/ToyasCard.lean, 'card_holds'). Laid BY PROGRAM, IN A SANDBOX (cutbox-door.mjs). By AI agents, Wed Nov 11 2026. No macro, syntax, notation, axiom, sorry.
-/
import Derived.Test.YtgjplodgdgaakaaGreatDoorRows
import GoSem.ClaimSeven
namespace Go.Proofs.YtgjplodgdgaakaaGreatDoor
namespace Rows

/-- THE TIED CARD OF 'laws.FnFrameBeginQuorumEpochRequest'. -/
def fnFrameBeginQuorumEpochRequestCard : Claim7 := { stood := { row := fnFrameBeginQuorumEpochRequestRow, standIns := [], harness := (true, "578b0ca103d5ab5521bef5fe04546226d37b38a94b4da4d94d1f3237669d9233"), looks := false }, kinds := [], alts := [], laidByText := true, laidKinds := [.sentinel], laidTests := true, laidLooks := .later }
def FnFrameBeginQuorumEpochRequestCardSaid : Prop := Claim7.holds Tryz.pinned (.plain (OpenSpec.ofChange fnFrameBeginQuorumEpochRequestSpec)) fnFrameBeginQuorumEpochRequestCard

/-- THE TIED CARD OF 'laws.FnFrameEndQuorumEpochRequest'. -/
def fnFrameEndQuorumEpochRequestCard : Claim7 := { stood := { row := fnFrameEndQuorumEpochRequestRow, standIns := [], harness := (true, "578b0ca103d5ab5521bef5fe04546226d37b38a94b4da4d94d1f3237669d9233"), looks := false }, kinds := [], alts := [], laidByText := true, laidKinds := [.sentinel], laidTests := true, laidLooks := .later }
def FnFrameEndQuorumEpochRequestCardSaid : Prop := Claim7.holds Tryz.pinned (.plain (OpenSpec.ofChange fnFrameEndQuorumEpochRequestSpec)) fnFrameEndQuorumEpochRequestCard

/-- THE TIED CARD OF 'laws.FnFrameShareFetchRequest'. -/
def fnFrameShareFetchRequestCard : Claim7 := { stood := { row := fnFrameShareFetchRequestRow, standIns := [], harness := (true, "578b0ca103d5ab5521bef5fe04546226d37b38a94b4da4d94d1f3237669d9233"), looks := false }, kinds := [], alts := [], laidByText := true, laidKinds := [.sentinel], laidTests := true, laidLooks := .later }
def FnFrameShareFetchRequestCardSaid : Prop := Claim7.holds Tryz.pinned (.plain (OpenSpec.ofChange fnFrameShareFetchRequestSpec)) fnFrameShareFetchRequestCard

/-- THE TIED CARD OF 'laws.FnFrameSASLAuthenticateRequest'. -/
def fnFrameSASLAuthenticateRequestCard : Claim7 := { stood := { row := fnFrameSASLAuthenticateRequestRow, standIns := [], harness := (true, "578b0ca103d5ab5521bef5fe04546226d37b38a94b4da4d94d1f3237669d9233"), looks := false }, kinds := [], alts := [], laidByText := true, laidKinds := [.sentinel], laidTests := true, laidLooks := .later }
def FnFrameSASLAuthenticateRequestCardSaid : Prop := Claim7.holds Tryz.pinned (.plain (OpenSpec.ofChange fnFrameSASLAuthenticateRequestSpec)) fnFrameSASLAuthenticateRequestCard

/-- THE TIED CARD OF 'laws.FnFrameExpireDelegationTokenRequest'. -/
def fnFrameExpireDelegationTokenRequestCard : Claim7 := { stood := { row := fnFrameExpireDelegationTokenRequestRow, standIns := [], harness := (true, "578b0ca103d5ab5521bef5fe04546226d37b38a94b4da4d94d1f3237669d9233"), looks := false }, kinds := [], alts := [], laidByText := true, laidKinds := [.sentinel], laidTests := true, laidLooks := .later }
def FnFrameExpireDelegationTokenRequestCardSaid : Prop := Claim7.holds Tryz.pinned (.plain (OpenSpec.ofChange fnFrameExpireDelegationTokenRequestSpec)) fnFrameExpireDelegationTokenRequestCard

/-- THE TIED CARD OF 'laws.FnFrameAddOffsetsToTxnRequest'. -/
def fnFrameAddOffsetsToTxnRequestCard : Claim7 := { stood := { row := fnFrameAddOffsetsToTxnRequestRow, standIns := [], harness := (true, "578b0ca103d5ab5521bef5fe04546226d37b38a94b4da4d94d1f3237669d9233"), looks := false }, kinds := [], alts := [], laidByText := true, laidKinds := [.sentinel], laidTests := true, laidLooks := .later }
def FnFrameAddOffsetsToTxnRequestCardSaid : Prop := Claim7.holds Tryz.pinned (.plain (OpenSpec.ofChange fnFrameAddOffsetsToTxnRequestSpec)) fnFrameAddOffsetsToTxnRequestCard

/-- THE TIED CARD OF 'laws.FnFrameListTransactionsRequest'. -/
def fnFrameListTransactionsRequestCard : Claim7 := { stood := { row := fnFrameListTransactionsRequestRow, standIns := [], harness := (true, "578b0ca103d5ab5521bef5fe04546226d37b38a94b4da4d94d1f3237669d9233"), looks := false }, kinds := [], alts := [], laidByText := true, laidKinds := [.sentinel], laidTests := true, laidLooks := .later }
def FnFrameListTransactionsRequestCardSaid : Prop := Claim7.holds Tryz.pinned (.plain (OpenSpec.ofChange fnFrameListTransactionsRequestSpec)) fnFrameListTransactionsRequestCard

/-- THE SECOND FORM's CARD OF 'laws.FnFrameBeginQuorumEpochRequest'. -/
def fnFrameBeginQuorumEpochRequestUptoCard : Claim7 := { stood := { row := fnFrameBeginQuorumEpochRequestUptoRow, standIns := [], harness := (true, "578b0ca103d5ab5521bef5fe04546226d37b38a94b4da4d94d1f3237669d9233"), looks := false }, kinds := [], alts := [], laidByText := true, laidKinds := [.sentinel], laidTests := true, laidLooks := .later }
def FnFrameBeginQuorumEpochRequestUptoCardSaid : Prop := Claim7.holds Tryz.pinned (.plain (OpenSpec.upto fnFrameBeginQuorumEpochRequestSpec)) fnFrameBeginQuorumEpochRequestUptoCard

/-- THE SECOND FORM's CARD OF 'laws.FnFrameEndQuorumEpochRequest'. -/
def fnFrameEndQuorumEpochRequestUptoCard : Claim7 := { stood := { row := fnFrameEndQuorumEpochRequestUptoRow, standIns := [], harness := (true, "578b0ca103d5ab5521bef5fe04546226d37b38a94b4da4d94d1f3237669d9233"), looks := false }, kinds := [], alts := [], laidByText := true, laidKinds := [.sentinel], laidTests := true, laidLooks := .later }
def FnFrameEndQuorumEpochRequestUptoCardSaid : Prop := Claim7.holds Tryz.pinned (.plain (OpenSpec.upto fnFrameEndQuorumEpochRequestSpec)) fnFrameEndQuorumEpochRequestUptoCard

/-- THE SECOND FORM's CARD OF 'laws.FnFrameShareFetchRequest'. -/
def fnFrameShareFetchRequestUptoCard : Claim7 := { stood := { row := fnFrameShareFetchRequestUptoRow, standIns := [], harness := (true, "578b0ca103d5ab5521bef5fe04546226d37b38a94b4da4d94d1f3237669d9233"), looks := false }, kinds := [], alts := [], laidByText := true, laidKinds := [.sentinel], laidTests := true, laidLooks := .later }
def FnFrameShareFetchRequestUptoCardSaid : Prop := Claim7.holds Tryz.pinned (.plain (OpenSpec.upto fnFrameShareFetchRequestSpec)) fnFrameShareFetchRequestUptoCard

/-- THE SECOND FORM's CARD OF 'laws.FnFrameSASLAuthenticateRequest'. -/
def fnFrameSASLAuthenticateRequestUptoCard : Claim7 := { stood := { row := fnFrameSASLAuthenticateRequestUptoRow, standIns := [], harness := (true, "578b0ca103d5ab5521bef5fe04546226d37b38a94b4da4d94d1f3237669d9233"), looks := false }, kinds := [], alts := [], laidByText := true, laidKinds := [.sentinel], laidTests := true, laidLooks := .later }
def FnFrameSASLAuthenticateRequestUptoCardSaid : Prop := Claim7.holds Tryz.pinned (.plain (OpenSpec.upto fnFrameSASLAuthenticateRequestSpec)) fnFrameSASLAuthenticateRequestUptoCard

/-- THE SECOND FORM's CARD OF 'laws.FnFrameExpireDelegationTokenRequest'. -/
def fnFrameExpireDelegationTokenRequestUptoCard : Claim7 := { stood := { row := fnFrameExpireDelegationTokenRequestUptoRow, standIns := [], harness := (true, "578b0ca103d5ab5521bef5fe04546226d37b38a94b4da4d94d1f3237669d9233"), looks := false }, kinds := [], alts := [], laidByText := true, laidKinds := [.sentinel], laidTests := true, laidLooks := .later }
def FnFrameExpireDelegationTokenRequestUptoCardSaid : Prop := Claim7.holds Tryz.pinned (.plain (OpenSpec.upto fnFrameExpireDelegationTokenRequestSpec)) fnFrameExpireDelegationTokenRequestUptoCard

/-- THE SECOND FORM's CARD OF 'laws.FnFrameAddOffsetsToTxnRequest'. -/
def fnFrameAddOffsetsToTxnRequestUptoCard : Claim7 := { stood := { row := fnFrameAddOffsetsToTxnRequestUptoRow, standIns := [], harness := (true, "578b0ca103d5ab5521bef5fe04546226d37b38a94b4da4d94d1f3237669d9233"), looks := false }, kinds := [], alts := [], laidByText := true, laidKinds := [.sentinel], laidTests := true, laidLooks := .later }
def FnFrameAddOffsetsToTxnRequestUptoCardSaid : Prop := Claim7.holds Tryz.pinned (.plain (OpenSpec.upto fnFrameAddOffsetsToTxnRequestSpec)) fnFrameAddOffsetsToTxnRequestUptoCard

/-- THE SECOND FORM's CARD OF 'laws.FnFrameListTransactionsRequest'. -/
def fnFrameListTransactionsRequestUptoCard : Claim7 := { stood := { row := fnFrameListTransactionsRequestUptoRow, standIns := [], harness := (true, "578b0ca103d5ab5521bef5fe04546226d37b38a94b4da4d94d1f3237669d9233"), looks := false }, kinds := [], alts := [], laidByText := true, laidKinds := [.sentinel], laidTests := true, laidLooks := .later }
def FnFrameListTransactionsRequestUptoCardSaid : Prop := Claim7.holds Tryz.pinned (.plain (OpenSpec.upto fnFrameListTransactionsRequestSpec)) fnFrameListTransactionsRequestUptoCard
end Rows
end Go.Proofs.YtgjplodgdgaakaaGreatDoor
