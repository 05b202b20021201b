/-
  NARROWER THAN 'FOR EVERY INPUT', by the rows' own cells (each row's printed sentence says how): FnMakeElectLeadersRequest: loops · FnMakeDescribeTopicPartitionsRequest: loops · FnMakeConsumerGroupHeartbeatResponse: loops · FnMakeAddRaftVoterRequest: loops · FnMakeControllerRegistrationRequest: loops · FnMakeLeaderAndISRResponse: loops.
  DERIVED. THE GIVEN ROWS OF THIS SEAT. 6 by the template 'for every input the law returns true; each argument reads behind the call as it read before'; 0 by the template 'total and deterministic' (their statements: YtmihblfjhoblmaaTotals.lean).
  GIVEN WITH THE SEED: the statements are not yours to turn. If you find one false, say at which input.
  Laid BY PROGRAM, IN A SANDBOX (cutbox-rows.mjs): the forced cells as the released guide's own fill.sh prints them over the translation 2d6e480ff37aff70… (all of the seat's roots in one cut). By AI agents, Wed Nov 11 2026. No macro, syntax, notation, axiom, sorry.
-/
import Derived.Test.YtmihblfjhoblmaaChecked
import GoSem.Claim
import GoSem.ClaimJoined
import GoSem.ClaimMapViews
import Derived.JoinedTies
import Derived.KernelRfl
namespace Go.Proofs.Ytmihblfjhoblmaa
/- THE CELL 'sum', in the pinned program and in every row, IS THE sha256 OF THE DUMP (.gsa) THAT YtmihblfjhoblmaaProg.lean LOADS. Nothing in Lean hashes anything: it is a label: what it is worth is what the hold of that sum in a sandbox is worth. -/
noncomputable def Try.pinned : Pinned := { name := "ytmihblfjhoblmaa", sum := "2d6e480ff37aff701c14dd9f2fdd362fdb7c957d082d8e67188f1d79051f5f05", checked := Try.checked }
namespace Rows
def none {H : Type} : Left H := { results := [], args := [] }

/-- 'laws.FnMakeElectLeadersRequest': WHATEVER THE INPUT: true; the input reads as it did. -/
def fnMakeElectLeadersRequestSpec : ChangeSpec := { name := "fnMakeElectLeadersRequest", fn := fun _ => fun
  | [d1, d2] => { results := [.lit (.bool true)], args := [d1, d2] }
  | _ => none }
def fnMakeElectLeadersRequestRow : OpenClaim := { program := "ytmihblfjhoblmaa", sum := "2d6e480ff37aff701c14dd9f2fdd362fdb7c957d082d8e67188f1d79051f5f05", func := "pub-mailsack/laws.FnMakeElectLeadersRequest", spec := "fnMakeElectLeadersRequest", inPlace := ["internal/reflectlite.ValueOf", "internal/reflectlite.Swapper", "(internal/reflectlite.Value).Len"], unfollowed := true, recurses := true, loops := true, apart := false }
def FnMakeElectLeadersRequestSaid : Prop := fnMakeElectLeadersRequestRow.holds Try.pinned (OpenSpec.ofChange fnMakeElectLeadersRequestSpec)

/-- ITS FALSE NEIGHBOUR: 'it returns false'. Refute it at one input. -/
def fnMakeElectLeadersRequestWrong : ChangeSpec := { name := "fnMakeElectLeadersRequest", fn := fun _ => fun
  | [d1, d2] => { results := [.lit (.bool false)], args := [d1, d2] }
  | _ => none }
def FnMakeElectLeadersRequestWrongFalsely : Prop := fnMakeElectLeadersRequestRow.holds Try.pinned (OpenSpec.ofChange fnMakeElectLeadersRequestWrong)

/-- 'laws.FnMakeDescribeTopicPartitionsRequest': WHATEVER THE INPUT: true; the input reads as it did. -/
def fnMakeDescribeTopicPartitionsRequestSpec : ChangeSpec := { name := "fnMakeDescribeTopicPartitionsRequest", fn := fun _ => fun
  | [d1, d2] => { results := [.lit (.bool true)], args := [d1, d2] }
  | _ => none }
def fnMakeDescribeTopicPartitionsRequestRow : OpenClaim := { program := "ytmihblfjhoblmaa", sum := "2d6e480ff37aff701c14dd9f2fdd362fdb7c957d082d8e67188f1d79051f5f05", func := "pub-mailsack/laws.FnMakeDescribeTopicPartitionsRequest", spec := "fnMakeDescribeTopicPartitionsRequest", inPlace := ["internal/reflectlite.ValueOf", "internal/reflectlite.Swapper", "(internal/reflectlite.Value).Len"], unfollowed := true, recurses := true, loops := true, apart := false }
def FnMakeDescribeTopicPartitionsRequestSaid : Prop := fnMakeDescribeTopicPartitionsRequestRow.holds Try.pinned (OpenSpec.ofChange fnMakeDescribeTopicPartitionsRequestSpec)

/-- ITS FALSE NEIGHBOUR: 'it returns false'. Refute it at one input. -/
def fnMakeDescribeTopicPartitionsRequestWrong : ChangeSpec := { name := "fnMakeDescribeTopicPartitionsRequest", fn := fun _ => fun
  | [d1, d2] => { results := [.lit (.bool false)], args := [d1, d2] }
  | _ => none }
def FnMakeDescribeTopicPartitionsRequestWrongFalsely : Prop := fnMakeDescribeTopicPartitionsRequestRow.holds Try.pinned (OpenSpec.ofChange fnMakeDescribeTopicPartitionsRequestWrong)

/-- 'laws.FnMakeConsumerGroupHeartbeatResponse': WHATEVER THE INPUT: true; the input reads as it did. -/
def fnMakeConsumerGroupHeartbeatResponseSpec : ChangeSpec := { name := "fnMakeConsumerGroupHeartbeatResponse", fn := fun _ => fun
  | [d1, d2] => { results := [.lit (.bool true)], args := [d1, d2] }
  | _ => none }
def fnMakeConsumerGroupHeartbeatResponseRow : OpenClaim := { program := "ytmihblfjhoblmaa", sum := "2d6e480ff37aff701c14dd9f2fdd362fdb7c957d082d8e67188f1d79051f5f05", func := "pub-mailsack/laws.FnMakeConsumerGroupHeartbeatResponse", spec := "fnMakeConsumerGroupHeartbeatResponse", inPlace := ["internal/reflectlite.ValueOf", "internal/reflectlite.Swapper", "(internal/reflectlite.Value).Len"], unfollowed := true, recurses := true, loops := true, apart := false }
def FnMakeConsumerGroupHeartbeatResponseSaid : Prop := fnMakeConsumerGroupHeartbeatResponseRow.holds Try.pinned (OpenSpec.ofChange fnMakeConsumerGroupHeartbeatResponseSpec)

/-- ITS FALSE NEIGHBOUR: 'it returns false'. Refute it at one input. -/
def fnMakeConsumerGroupHeartbeatResponseWrong : ChangeSpec := { name := "fnMakeConsumerGroupHeartbeatResponse", fn := fun _ => fun
  | [d1, d2] => { results := [.lit (.bool false)], args := [d1, d2] }
  | _ => none }
def FnMakeConsumerGroupHeartbeatResponseWrongFalsely : Prop := fnMakeConsumerGroupHeartbeatResponseRow.holds Try.pinned (OpenSpec.ofChange fnMakeConsumerGroupHeartbeatResponseWrong)

/-- 'laws.FnMakeAddRaftVoterRequest': WHATEVER THE INPUT: true; the input reads as it did. -/
def fnMakeAddRaftVoterRequestSpec : ChangeSpec := { name := "fnMakeAddRaftVoterRequest", fn := fun _ => fun
  | [d1, d2] => { results := [.lit (.bool true)], args := [d1, d2] }
  | _ => none }
def fnMakeAddRaftVoterRequestRow : OpenClaim := { program := "ytmihblfjhoblmaa", sum := "2d6e480ff37aff701c14dd9f2fdd362fdb7c957d082d8e67188f1d79051f5f05", func := "pub-mailsack/laws.FnMakeAddRaftVoterRequest", spec := "fnMakeAddRaftVoterRequest", inPlace := ["internal/reflectlite.ValueOf", "internal/reflectlite.Swapper", "(internal/reflectlite.Value).Len"], unfollowed := true, recurses := true, loops := true, apart := false }
def FnMakeAddRaftVoterRequestSaid : Prop := fnMakeAddRaftVoterRequestRow.holds Try.pinned (OpenSpec.ofChange fnMakeAddRaftVoterRequestSpec)

/-- ITS FALSE NEIGHBOUR: 'it returns false'. Refute it at one input. -/
def fnMakeAddRaftVoterRequestWrong : ChangeSpec := { name := "fnMakeAddRaftVoterRequest", fn := fun _ => fun
  | [d1, d2] => { results := [.lit (.bool false)], args := [d1, d2] }
  | _ => none }
def FnMakeAddRaftVoterRequestWrongFalsely : Prop := fnMakeAddRaftVoterRequestRow.holds Try.pinned (OpenSpec.ofChange fnMakeAddRaftVoterRequestWrong)

/-- 'laws.FnMakeControllerRegistrationRequest': WHATEVER THE INPUT: true; the input reads as it did. -/
def fnMakeControllerRegistrationRequestSpec : ChangeSpec := { name := "fnMakeControllerRegistrationRequest", fn := fun _ => fun
  | [d1, d2] => { results := [.lit (.bool true)], args := [d1, d2] }
  | _ => none }
def fnMakeControllerRegistrationRequestRow : OpenClaim := { program := "ytmihblfjhoblmaa", sum := "2d6e480ff37aff701c14dd9f2fdd362fdb7c957d082d8e67188f1d79051f5f05", func := "pub-mailsack/laws.FnMakeControllerRegistrationRequest", spec := "fnMakeControllerRegistrationRequest", inPlace := ["internal/reflectlite.ValueOf", "internal/reflectlite.Swapper", "(internal/reflectlite.Value).Len"], unfollowed := true, recurses := true, loops := true, apart := false }
def FnMakeControllerRegistrationRequestSaid : Prop := fnMakeControllerRegistrationRequestRow.holds Try.pinned (OpenSpec.ofChange fnMakeControllerRegistrationRequestSpec)

/-- ITS FALSE NEIGHBOUR: 'it returns false'. Refute it at one input. -/
def fnMakeControllerRegistrationRequestWrong : ChangeSpec := { name := "fnMakeControllerRegistrationRequest", fn := fun _ => fun
  | [d1, d2] => { results := [.lit (.bool false)], args := [d1, d2] }
  | _ => none }
def FnMakeControllerRegistrationRequestWrongFalsely : Prop := fnMakeControllerRegistrationRequestRow.holds Try.pinned (OpenSpec.ofChange fnMakeControllerRegistrationRequestWrong)

/-- 'laws.FnMakeLeaderAndISRResponse': WHATEVER THE INPUT: true; the input reads as it did. -/
def fnMakeLeaderAndISRResponseSpec : ChangeSpec := { name := "fnMakeLeaderAndISRResponse", fn := fun _ => fun
  | [d1, d2] => { results := [.lit (.bool true)], args := [d1, d2] }
  | _ => none }
def fnMakeLeaderAndISRResponseRow : OpenClaim := { program := "ytmihblfjhoblmaa", sum := "2d6e480ff37aff701c14dd9f2fdd362fdb7c957d082d8e67188f1d79051f5f05", func := "pub-mailsack/laws.FnMakeLeaderAndISRResponse", spec := "fnMakeLeaderAndISRResponse", inPlace := ["internal/reflectlite.ValueOf", "internal/reflectlite.Swapper", "(internal/reflectlite.Value).Len"], unfollowed := true, recurses := true, loops := true, apart := false }
def FnMakeLeaderAndISRResponseSaid : Prop := fnMakeLeaderAndISRResponseRow.holds Try.pinned (OpenSpec.ofChange fnMakeLeaderAndISRResponseSpec)

/-- ITS FALSE NEIGHBOUR: 'it returns false'. Refute it at one input. -/
def fnMakeLeaderAndISRResponseWrong : ChangeSpec := { name := "fnMakeLeaderAndISRResponse", fn := fun _ => fun
  | [d1, d2] => { results := [.lit (.bool false)], args := [d1, d2] }
  | _ => none }
def FnMakeLeaderAndISRResponseWrongFalsely : Prop := fnMakeLeaderAndISRResponseRow.holds Try.pinned (OpenSpec.ofChange fnMakeLeaderAndISRResponseWrong)

/- THE SECOND FORM. 'bulk': how many values and letters a reading holds, each counted each time it is reached (what is shared counts as often as it is met; a slice's spare places count too). A statement '..UptoSaid' is the law's where the arguments, and the package variables that the reading takes, are together of bulk at most 1048576: NARROWER than '..Said'. Prove '..Said' where nothing that the law and all that it calls make is longer than what came in: it says more and counts as full. Else prove '..UptoSaid'. A law counts once. -/
mutual
def uptoBulk {H : Type} : DataW H → Nat
  | .lit (.string bytes) => bytes.length + 1
  | .lit _ => 1
  | .nil => 1
  | .ptr d => uptoBulk d + 1
  | .slice elems spare => uptoBulkAll elems + uptoBulkAll spare + 1
  | .agg parts => uptoBulkAll parts + 1
  | .iface _ d => uptoBulk d + 1
  | .map entries => uptoBulkEntries entries + 1
  | .held _ => 1
def uptoBulkAll {H : Type} : List (DataW H) → Nat
  | [] => 0
  | d :: r => uptoBulk d + uptoBulkAll r
def uptoBulkEntries {H : Type} : List (Lit × DataW H) → Nat
  | [] => 0
  | x :: r => uptoBulkEntry x + uptoBulkEntries r
def uptoBulkEntry {H : Type} : Lit × DataW H → Nat
  | (.string bytes, d) => bytes.length + uptoBulk d + 1
  | (_, d) => uptoBulk d + 1
 end
def uptoSmall : (H : Type) → List (DataW H) → Bool := fun _ ds => decide (uptoBulkAll ds ≤ 1048576)
def OpenSpec.upto (s : _root_.Go.ChangeSpec) : _root_.Go.OpenSpec := { _root_.Go.OpenSpec.ofChange s with cond := some uptoSmall }

/-- 'laws.FnMakeElectLeadersRequest', WHERE WHAT IT READS IS OF BULK AT MOST 1048576: true; the input reads as it did. -/
def fnMakeElectLeadersRequestUptoRow : OpenClaim := { program := "ytmihblfjhoblmaa", sum := "2d6e480ff37aff701c14dd9f2fdd362fdb7c957d082d8e67188f1d79051f5f05", func := "pub-mailsack/laws.FnMakeElectLeadersRequest", spec := "fnMakeElectLeadersRequest", inPlace := ["internal/reflectlite.ValueOf", "internal/reflectlite.Swapper", "(internal/reflectlite.Value).Len"], unfollowed := true, recurses := true, loops := true, apart := false, narrowed := true }
def FnMakeElectLeadersRequestUptoSaid : Prop := fnMakeElectLeadersRequestUptoRow.holds Try.pinned (OpenSpec.upto fnMakeElectLeadersRequestSpec)

/-- 'laws.FnMakeDescribeTopicPartitionsRequest', WHERE WHAT IT READS IS OF BULK AT MOST 1048576: true; the input reads as it did. -/
def fnMakeDescribeTopicPartitionsRequestUptoRow : OpenClaim := { program := "ytmihblfjhoblmaa", sum := "2d6e480ff37aff701c14dd9f2fdd362fdb7c957d082d8e67188f1d79051f5f05", func := "pub-mailsack/laws.FnMakeDescribeTopicPartitionsRequest", spec := "fnMakeDescribeTopicPartitionsRequest", inPlace := ["internal/reflectlite.ValueOf", "internal/reflectlite.Swapper", "(internal/reflectlite.Value).Len"], unfollowed := true, recurses := true, loops := true, apart := false, narrowed := true }
def FnMakeDescribeTopicPartitionsRequestUptoSaid : Prop := fnMakeDescribeTopicPartitionsRequestUptoRow.holds Try.pinned (OpenSpec.upto fnMakeDescribeTopicPartitionsRequestSpec)

/-- 'laws.FnMakeConsumerGroupHeartbeatResponse', WHERE WHAT IT READS IS OF BULK AT MOST 1048576: true; the input reads as it did. -/
def fnMakeConsumerGroupHeartbeatResponseUptoRow : OpenClaim := { program := "ytmihblfjhoblmaa", sum := "2d6e480ff37aff701c14dd9f2fdd362fdb7c957d082d8e67188f1d79051f5f05", func := "pub-mailsack/laws.FnMakeConsumerGroupHeartbeatResponse", spec := "fnMakeConsumerGroupHeartbeatResponse", inPlace := ["internal/reflectlite.ValueOf", "internal/reflectlite.Swapper", "(internal/reflectlite.Value).Len"], unfollowed := true, recurses := true, loops := true, apart := false, narrowed := true }
def FnMakeConsumerGroupHeartbeatResponseUptoSaid : Prop := fnMakeConsumerGroupHeartbeatResponseUptoRow.holds Try.pinned (OpenSpec.upto fnMakeConsumerGroupHeartbeatResponseSpec)

/-- 'laws.FnMakeAddRaftVoterRequest', WHERE WHAT IT READS IS OF BULK AT MOST 1048576: true; the input reads as it did. -/
def fnMakeAddRaftVoterRequestUptoRow : OpenClaim := { program := "ytmihblfjhoblmaa", sum := "2d6e480ff37aff701c14dd9f2fdd362fdb7c957d082d8e67188f1d79051f5f05", func := "pub-mailsack/laws.FnMakeAddRaftVoterRequest", spec := "fnMakeAddRaftVoterRequest", inPlace := ["internal/reflectlite.ValueOf", "internal/reflectlite.Swapper", "(internal/reflectlite.Value).Len"], unfollowed := true, recurses := true, loops := true, apart := false, narrowed := true }
def FnMakeAddRaftVoterRequestUptoSaid : Prop := fnMakeAddRaftVoterRequestUptoRow.holds Try.pinned (OpenSpec.upto fnMakeAddRaftVoterRequestSpec)

/-- 'laws.FnMakeControllerRegistrationRequest', WHERE WHAT IT READS IS OF BULK AT MOST 1048576: true; the input reads as it did. -/
def fnMakeControllerRegistrationRequestUptoRow : OpenClaim := { program := "ytmihblfjhoblmaa", sum := "2d6e480ff37aff701c14dd9f2fdd362fdb7c957d082d8e67188f1d79051f5f05", func := "pub-mailsack/laws.FnMakeControllerRegistrationRequest", spec := "fnMakeControllerRegistrationRequest", inPlace := ["internal/reflectlite.ValueOf", "internal/reflectlite.Swapper", "(internal/reflectlite.Value).Len"], unfollowed := true, recurses := true, loops := true, apart := false, narrowed := true }
def FnMakeControllerRegistrationRequestUptoSaid : Prop := fnMakeControllerRegistrationRequestUptoRow.holds Try.pinned (OpenSpec.upto fnMakeControllerRegistrationRequestSpec)

/-- 'laws.FnMakeLeaderAndISRResponse', WHERE WHAT IT READS IS OF BULK AT MOST 1048576: true; the input reads as it did. -/
def fnMakeLeaderAndISRResponseUptoRow : OpenClaim := { program := "ytmihblfjhoblmaa", sum := "2d6e480ff37aff701c14dd9f2fdd362fdb7c957d082d8e67188f1d79051f5f05", func := "pub-mailsack/laws.FnMakeLeaderAndISRResponse", spec := "fnMakeLeaderAndISRResponse", inPlace := ["internal/reflectlite.ValueOf", "internal/reflectlite.Swapper", "(internal/reflectlite.Value).Len"], unfollowed := true, recurses := true, loops := true, apart := false, narrowed := true }
def FnMakeLeaderAndISRResponseUptoSaid : Prop := fnMakeLeaderAndISRResponseUptoRow.holds Try.pinned (OpenSpec.upto fnMakeLeaderAndISRResponseSpec)

end Rows
end Go.Proofs.Ytmihblfjhoblmaa
