/-
  DERIVED. GIVEN WITH THE SEED: THE CARDS: each row of YthegcgchehpghaaDoorRows.lean that lists a variable, with what it lists TIED to the program's text (the seventh form; the later family's looks); each row that meets fmt, with fmt's text TOLD by the authors' own Lean function (tested against real Go, not proved from fmt's source: count such statements apart). THE CARD IS WHAT COUNTS. Prove the row's statement (the work); the ties are given (YthegcgchehpghaaDoorTie.lean); close each card by the builder's one call (the guide's Derived/Test/ToyasCard.lean, 'card_holds'). Laid BY PROGRAM, IN A SANDBOX (cutbox-door.mjs). By AI agents, Wed Nov 11 2026. No macro, syntax, notation, axiom, sorry.
-/
import Derived.Test.YthegcgchehpghaaDoorRows
import GoSem.ClaimSeven
namespace Go.Proofs.YthegcgchehpghaaDoor
namespace Rows

/-- THE TIED CARD OF 'laws.FnUnsafeUpdateRaftVoterResponse'. -/
def fnUnsafeUpdateRaftVoterResponseCard : Claim7 := { stood := { row := fnUnsafeUpdateRaftVoterResponseRow, standIns := [], harness := (true, "176a340f08077e57ee99e978be94a459a110fdf06c71a748e98c07c64276845d"), looks := false }, kinds := [], alts := [], laidByText := true, laidKinds := [.sentinel], laidTests := true, laidLooks := .later }
def FnUnsafeUpdateRaftVoterResponseCardSaid : Prop := Claim7.holds Tryd.pinned (.plain (OpenSpec.ofChange fnUnsafeUpdateRaftVoterResponseSpec)) fnUnsafeUpdateRaftVoterResponseCard

/-- THE TIED CARD OF 'laws.FnUnsafeAlterUserSCRAMCredentialsResponse'. -/
def fnUnsafeAlterUserSCRAMCredentialsResponseCard : Claim7 := { stood := { row := fnUnsafeAlterUserSCRAMCredentialsResponseRow, standIns := [], harness := (true, "176a340f08077e57ee99e978be94a459a110fdf06c71a748e98c07c64276845d"), looks := false }, kinds := [], alts := [], laidByText := true, laidKinds := [.sentinel], laidTests := true, laidLooks := .later }
def FnUnsafeAlterUserSCRAMCredentialsResponseCardSaid : Prop := Claim7.holds Tryd.pinned (.plain (OpenSpec.ofChange fnUnsafeAlterUserSCRAMCredentialsResponseSpec)) fnUnsafeAlterUserSCRAMCredentialsResponseCard

/-- THE TIED CARD OF 'laws.FnUnsafeAlterShareGroupOffsetsRequest'. -/
def fnUnsafeAlterShareGroupOffsetsRequestCard : Claim7 := { stood := { row := fnUnsafeAlterShareGroupOffsetsRequestRow, standIns := [], harness := (true, "176a340f08077e57ee99e978be94a459a110fdf06c71a748e98c07c64276845d"), looks := false }, kinds := [], alts := [], laidByText := true, laidKinds := [.sentinel], laidTests := true, laidLooks := .later }
def FnUnsafeAlterShareGroupOffsetsRequestCardSaid : Prop := Claim7.holds Tryd.pinned (.plain (OpenSpec.ofChange fnUnsafeAlterShareGroupOffsetsRequestSpec)) fnUnsafeAlterShareGroupOffsetsRequestCard

/-- THE TIED CARD OF 'laws.FnUnsafeWriteTxnMarkersResponse'. -/
def fnUnsafeWriteTxnMarkersResponseCard : Claim7 := { stood := { row := fnUnsafeWriteTxnMarkersResponseRow, standIns := [], harness := (true, "176a340f08077e57ee99e978be94a459a110fdf06c71a748e98c07c64276845d"), looks := false }, kinds := [], alts := [], laidByText := true, laidKinds := [.sentinel], laidTests := true, laidLooks := .later }
def FnUnsafeWriteTxnMarkersResponseCardSaid : Prop := Claim7.holds Tryd.pinned (.plain (OpenSpec.ofChange fnUnsafeWriteTxnMarkersResponseSpec)) fnUnsafeWriteTxnMarkersResponseCard

/-- THE TIED CARD OF 'laws.FnUnsafeWriteShareGroupStateRequest'. -/
def fnUnsafeWriteShareGroupStateRequestCard : Claim7 := { stood := { row := fnUnsafeWriteShareGroupStateRequestRow, standIns := [], harness := (true, "176a340f08077e57ee99e978be94a459a110fdf06c71a748e98c07c64276845d"), looks := false }, kinds := [], alts := [], laidByText := true, laidKinds := [.sentinel], laidTests := true, laidLooks := .later }
def FnUnsafeWriteShareGroupStateRequestCardSaid : Prop := Claim7.holds Tryd.pinned (.plain (OpenSpec.ofChange fnUnsafeWriteShareGroupStateRequestSpec)) fnUnsafeWriteShareGroupStateRequestCard

/-- THE TIED CARD OF 'laws.FnUnsafeDescribeConfigsResponse'. -/
def fnUnsafeDescribeConfigsResponseCard : Claim7 := { stood := { row := fnUnsafeDescribeConfigsResponseRow, standIns := [], harness := (true, "176a340f08077e57ee99e978be94a459a110fdf06c71a748e98c07c64276845d"), looks := false }, kinds := [], alts := [], laidByText := true, laidKinds := [.sentinel], laidTests := true, laidLooks := .later }
def FnUnsafeDescribeConfigsResponseCardSaid : Prop := Claim7.holds Tryd.pinned (.plain (OpenSpec.ofChange fnUnsafeDescribeConfigsResponseSpec)) fnUnsafeDescribeConfigsResponseCard

/-- THE SECOND FORM's CARD OF 'laws.FnUnsafeUpdateRaftVoterResponse'. -/
def fnUnsafeUpdateRaftVoterResponseUptoCard : Claim7 := { stood := { row := fnUnsafeUpdateRaftVoterResponseUptoRow, standIns := [], harness := (true, "176a340f08077e57ee99e978be94a459a110fdf06c71a748e98c07c64276845d"), looks := false }, kinds := [], alts := [], laidByText := true, laidKinds := [.sentinel], laidTests := true, laidLooks := .later }
def FnUnsafeUpdateRaftVoterResponseUptoCardSaid : Prop := Claim7.holds Tryd.pinned (.plain (OpenSpec.upto fnUnsafeUpdateRaftVoterResponseSpec)) fnUnsafeUpdateRaftVoterResponseUptoCard

/-- THE SECOND FORM's CARD OF 'laws.FnUnsafeAlterUserSCRAMCredentialsResponse'. -/
def fnUnsafeAlterUserSCRAMCredentialsResponseUptoCard : Claim7 := { stood := { row := fnUnsafeAlterUserSCRAMCredentialsResponseUptoRow, standIns := [], harness := (true, "176a340f08077e57ee99e978be94a459a110fdf06c71a748e98c07c64276845d"), looks := false }, kinds := [], alts := [], laidByText := true, laidKinds := [.sentinel], laidTests := true, laidLooks := .later }
def FnUnsafeAlterUserSCRAMCredentialsResponseUptoCardSaid : Prop := Claim7.holds Tryd.pinned (.plain (OpenSpec.upto fnUnsafeAlterUserSCRAMCredentialsResponseSpec)) fnUnsafeAlterUserSCRAMCredentialsResponseUptoCard

/-- THE SECOND FORM's CARD OF 'laws.FnUnsafeAlterShareGroupOffsetsRequest'. -/
def fnUnsafeAlterShareGroupOffsetsRequestUptoCard : Claim7 := { stood := { row := fnUnsafeAlterShareGroupOffsetsRequestUptoRow, standIns := [], harness := (true, "176a340f08077e57ee99e978be94a459a110fdf06c71a748e98c07c64276845d"), looks := false }, kinds := [], alts := [], laidByText := true, laidKinds := [.sentinel], laidTests := true, laidLooks := .later }
def FnUnsafeAlterShareGroupOffsetsRequestUptoCardSaid : Prop := Claim7.holds Tryd.pinned (.plain (OpenSpec.upto fnUnsafeAlterShareGroupOffsetsRequestSpec)) fnUnsafeAlterShareGroupOffsetsRequestUptoCard

/-- THE SECOND FORM's CARD OF 'laws.FnUnsafeWriteTxnMarkersResponse'. -/
def fnUnsafeWriteTxnMarkersResponseUptoCard : Claim7 := { stood := { row := fnUnsafeWriteTxnMarkersResponseUptoRow, standIns := [], harness := (true, "176a340f08077e57ee99e978be94a459a110fdf06c71a748e98c07c64276845d"), looks := false }, kinds := [], alts := [], laidByText := true, laidKinds := [.sentinel], laidTests := true, laidLooks := .later }
def FnUnsafeWriteTxnMarkersResponseUptoCardSaid : Prop := Claim7.holds Tryd.pinned (.plain (OpenSpec.upto fnUnsafeWriteTxnMarkersResponseSpec)) fnUnsafeWriteTxnMarkersResponseUptoCard

/-- THE SECOND FORM's CARD OF 'laws.FnUnsafeWriteShareGroupStateRequest'. -/
def fnUnsafeWriteShareGroupStateRequestUptoCard : Claim7 := { stood := { row := fnUnsafeWriteShareGroupStateRequestUptoRow, standIns := [], harness := (true, "176a340f08077e57ee99e978be94a459a110fdf06c71a748e98c07c64276845d"), looks := false }, kinds := [], alts := [], laidByText := true, laidKinds := [.sentinel], laidTests := true, laidLooks := .later }
def FnUnsafeWriteShareGroupStateRequestUptoCardSaid : Prop := Claim7.holds Tryd.pinned (.plain (OpenSpec.upto fnUnsafeWriteShareGroupStateRequestSpec)) fnUnsafeWriteShareGroupStateRequestUptoCard

/-- THE SECOND FORM's CARD OF 'laws.FnUnsafeDescribeConfigsResponse'. -/
def fnUnsafeDescribeConfigsResponseUptoCard : Claim7 := { stood := { row := fnUnsafeDescribeConfigsResponseUptoRow, standIns := [], harness := (true, "176a340f08077e57ee99e978be94a459a110fdf06c71a748e98c07c64276845d"), looks := false }, kinds := [], alts := [], laidByText := true, laidKinds := [.sentinel], laidTests := true, laidLooks := .later }
def FnUnsafeDescribeConfigsResponseUptoCardSaid : Prop := Claim7.holds Tryd.pinned (.plain (OpenSpec.upto fnUnsafeDescribeConfigsResponseSpec)) fnUnsafeDescribeConfigsResponseUptoCard
end Rows
end Go.Proofs.YthegcgchehpghaaDoor
