/-
  DERIVED. GIVEN WITH THE SEED: THE CARDS: each row of YtamloffehihbmaaDoorRows.lean that lists a variable, with what it lists TIED to the program's text (the seventh form; the later family's looks); each row that meets fmt, with fmt's text TOLD by the authors' own Lean function (tested against real Go, not proved from fmt's source: count such statements apart). THE CARD IS WHAT COUNTS. Prove the row's statement (the work); the ties are given (YtamloffehihbmaaDoorTie.lean); close each card by the builder's one call (the guide's Derived/Test/ToyasCard.lean, 'card_holds'). Laid BY PROGRAM, IN A SANDBOX (cutbox-door.mjs). By AI agents, Wed Nov 11 2026. No macro, syntax, notation, axiom, sorry.
-/
import Derived.Test.YtamloffehihbmaaDoorRows
import GoSem.ClaimSeven
namespace Go.Proofs.YtamloffehihbmaaDoor
namespace Rows

/-- THE TIED CARD OF 'laws.FnBehindUnregisterBrokerRequest'. -/
def fnBehindUnregisterBrokerRequestCard : Claim7 := { stood := { row := fnBehindUnregisterBrokerRequestRow, standIns := [], harness := (true, "6cdd99f780b219c8e5e2cfccdefead21ca19216e85b48d9325b231bc859dbcd3"), looks := false }, kinds := [], alts := [], laidByText := true, laidKinds := [.sentinel], laidTests := true, laidLooks := .later }
def FnBehindUnregisterBrokerRequestCardSaid : Prop := Claim7.holds Tryd.pinned (.plain (OpenSpec.ofChange fnBehindUnregisterBrokerRequestSpec)) fnBehindUnregisterBrokerRequestCard

/-- THE TIED CARD OF 'laws.FnBehindBrokerHeartbeatResponse'. -/
def fnBehindBrokerHeartbeatResponseCard : Claim7 := { stood := { row := fnBehindBrokerHeartbeatResponseRow, standIns := [], harness := (true, "6cdd99f780b219c8e5e2cfccdefead21ca19216e85b48d9325b231bc859dbcd3"), looks := false }, kinds := [], alts := [], laidByText := true, laidKinds := [.sentinel], laidTests := true, laidLooks := .later }
def FnBehindBrokerHeartbeatResponseCardSaid : Prop := Claim7.holds Tryd.pinned (.plain (OpenSpec.ofChange fnBehindBrokerHeartbeatResponseSpec)) fnBehindBrokerHeartbeatResponseCard

/-- THE TIED CARD OF 'laws.FnBehindInitProducerIDResponse'. -/
def fnBehindInitProducerIDResponseCard : Claim7 := { stood := { row := fnBehindInitProducerIDResponseRow, standIns := [], harness := (true, "6cdd99f780b219c8e5e2cfccdefead21ca19216e85b48d9325b231bc859dbcd3"), looks := false }, kinds := [], alts := [], laidByText := true, laidKinds := [.sentinel], laidTests := true, laidLooks := .later }
def FnBehindInitProducerIDResponseCardSaid : Prop := Claim7.holds Tryd.pinned (.plain (OpenSpec.ofChange fnBehindInitProducerIDResponseSpec)) fnBehindInitProducerIDResponseCard

/-- THE SECOND FORM's CARD OF 'laws.FnBehindUnregisterBrokerRequest'. -/
def fnBehindUnregisterBrokerRequestUptoCard : Claim7 := { stood := { row := fnBehindUnregisterBrokerRequestUptoRow, standIns := [], harness := (true, "6cdd99f780b219c8e5e2cfccdefead21ca19216e85b48d9325b231bc859dbcd3"), looks := false }, kinds := [], alts := [], laidByText := true, laidKinds := [.sentinel], laidTests := true, laidLooks := .later }
def FnBehindUnregisterBrokerRequestUptoCardSaid : Prop := Claim7.holds Tryd.pinned (.plain (OpenSpec.upto fnBehindUnregisterBrokerRequestSpec)) fnBehindUnregisterBrokerRequestUptoCard

/-- THE SECOND FORM's CARD OF 'laws.FnBehindBrokerHeartbeatResponse'. -/
def fnBehindBrokerHeartbeatResponseUptoCard : Claim7 := { stood := { row := fnBehindBrokerHeartbeatResponseUptoRow, standIns := [], harness := (true, "6cdd99f780b219c8e5e2cfccdefead21ca19216e85b48d9325b231bc859dbcd3"), looks := false }, kinds := [], alts := [], laidByText := true, laidKinds := [.sentinel], laidTests := true, laidLooks := .later }
def FnBehindBrokerHeartbeatResponseUptoCardSaid : Prop := Claim7.holds Tryd.pinned (.plain (OpenSpec.upto fnBehindBrokerHeartbeatResponseSpec)) fnBehindBrokerHeartbeatResponseUptoCard

/-- THE SECOND FORM's CARD OF 'laws.FnBehindInitProducerIDResponse'. -/
def fnBehindInitProducerIDResponseUptoCard : Claim7 := { stood := { row := fnBehindInitProducerIDResponseUptoRow, standIns := [], harness := (true, "6cdd99f780b219c8e5e2cfccdefead21ca19216e85b48d9325b231bc859dbcd3"), looks := false }, kinds := [], alts := [], laidByText := true, laidKinds := [.sentinel], laidTests := true, laidLooks := .later }
def FnBehindInitProducerIDResponseUptoCardSaid : Prop := Claim7.holds Tryd.pinned (.plain (OpenSpec.upto fnBehindInitProducerIDResponseSpec)) fnBehindInitProducerIDResponseUptoCard
end Rows
end Go.Proofs.YtamloffehihbmaaDoor
