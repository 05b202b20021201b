/-
  NARROWER THAN 'FOR EVERY INPUT', by the rows' own cells (each row's printed sentence says how): FnMakeDeleteGroupsRequest: loops · FnMakeCreateACLsResponse: loops · FnMakeShareGroupHeartbeatRequest: loops · FnMakeElectLeadersRequest: loops · FnMakeDeleteShareGroupStateRequest: loops · FnMakeDescribeTopicPartitionsRequest: loops · FnMakeAddRaftVoterRequest: loops · FnMakeLeaderAndISRResponse: loops · FnMakeControllerRegistrationRequest: loops · FnMakeConsumerGroupHeartbeatResponse: loops.
  DERIVED. THE GIVEN ROWS OF THIS SEAT. 10 by the template 'for every input the law returns true; each argument reads behind the call as it read before'; 0 by the template 'total and deterministic' (their statements: YtcjleenkjlafaaaTotals.lean).
  GIVEN WITH THE SEED: the statements are not yours to turn. If you find one false, say at which input.
  Laid BY PROGRAM, IN A SANDBOX (cutbox-rows.mjs): the forced cells as the released guide's own fill.sh prints them over the translation a619a956aba5b441… (all of the seat's roots in one cut). By AI agents, Wed Nov 11 2026. No macro, syntax, notation, axiom, sorry.
-/
import Derived.Test.YtcjleenkjlafaaaChecked
import GoSem.Claim
import GoSem.ClaimJoined
import GoSem.ClaimMapViews
import Derived.JoinedTies
import Derived.KernelRfl
namespace Go.Proofs.Ytcjleenkjlafaaa
/- THE CELL 'sum', in the pinned program and in every row, IS THE sha256 OF THE DUMP (.gsa) THAT YtcjleenkjlafaaaProg.lean LOADS. Nothing in Lean hashes anything: it is a label: what it is worth is what the hold of that sum in a sandbox is worth. -/
noncomputable def Try.pinned : Pinned := { name := "ytcjleenkjlafaaa", sum := "a619a956aba5b441f7e5fba03f21e2be53aacd62df3a90266e434f6380786260", checked := Try.checked }
namespace Rows
def none {H : Type} : Left H := { results := [], args := [] }

/-- 'laws.FnMakeDeleteGroupsRequest': WHATEVER THE INPUT: true; the input reads as it did. -/
def fnMakeDeleteGroupsRequestSpec : ChangeSpec := { name := "fnMakeDeleteGroupsRequest", fn := fun _ => fun
  | [d1, d2] => { results := [.lit (.bool true)], args := [d1, d2] }
  | _ => none }
def fnMakeDeleteGroupsRequestRow : OpenClaim := { program := "ytcjleenkjlafaaa", sum := "a619a956aba5b441f7e5fba03f21e2be53aacd62df3a90266e434f6380786260", func := "pub-mailsack/laws.FnMakeDeleteGroupsRequest", spec := "fnMakeDeleteGroupsRequest", inPlace := ["internal/reflectlite.ValueOf", "internal/reflectlite.Swapper", "(internal/reflectlite.Value).Len"], unfollowed := true, recurses := true, loops := true, apart := false }
def FnMakeDeleteGroupsRequestSaid : Prop := fnMakeDeleteGroupsRequestRow.holds Try.pinned (OpenSpec.ofChange fnMakeDeleteGroupsRequestSpec)

/-- ITS FALSE NEIGHBOUR: 'it returns false'. Refute it at one input. -/
def fnMakeDeleteGroupsRequestWrong : ChangeSpec := { name := "fnMakeDeleteGroupsRequest", fn := fun _ => fun
  | [d1, d2] => { results := [.lit (.bool false)], args := [d1, d2] }
  | _ => none }
def FnMakeDeleteGroupsRequestWrongFalsely : Prop := fnMakeDeleteGroupsRequestRow.holds Try.pinned (OpenSpec.ofChange fnMakeDeleteGroupsRequestWrong)

/-- 'laws.FnMakeCreateACLsResponse': WHATEVER THE INPUT: true; the input reads as it did. -/
def fnMakeCreateACLsResponseSpec : ChangeSpec := { name := "fnMakeCreateACLsResponse", fn := fun _ => fun
  | [d1, d2] => { results := [.lit (.bool true)], args := [d1, d2] }
  | _ => none }
def fnMakeCreateACLsResponseRow : OpenClaim := { program := "ytcjleenkjlafaaa", sum := "a619a956aba5b441f7e5fba03f21e2be53aacd62df3a90266e434f6380786260", func := "pub-mailsack/laws.FnMakeCreateACLsResponse", spec := "fnMakeCreateACLsResponse", inPlace := ["internal/reflectlite.ValueOf", "internal/reflectlite.Swapper", "(internal/reflectlite.Value).Len"], unfollowed := true, recurses := true, loops := true, apart := false }
def FnMakeCreateACLsResponseSaid : Prop := fnMakeCreateACLsResponseRow.holds Try.pinned (OpenSpec.ofChange fnMakeCreateACLsResponseSpec)

/-- ITS FALSE NEIGHBOUR: 'it returns false'. Refute it at one input. -/
def fnMakeCreateACLsResponseWrong : ChangeSpec := { name := "fnMakeCreateACLsResponse", fn := fun _ => fun
  | [d1, d2] => { results := [.lit (.bool false)], args := [d1, d2] }
  | _ => none }
def FnMakeCreateACLsResponseWrongFalsely : Prop := fnMakeCreateACLsResponseRow.holds Try.pinned (OpenSpec.ofChange fnMakeCreateACLsResponseWrong)

/-- 'laws.FnMakeShareGroupHeartbeatRequest': WHATEVER THE INPUT: true; the input reads as it did. -/
def fnMakeShareGroupHeartbeatRequestSpec : ChangeSpec := { name := "fnMakeShareGroupHeartbeatRequest", fn := fun _ => fun
  | [d1, d2] => { results := [.lit (.bool true)], args := [d1, d2] }
  | _ => none }
def fnMakeShareGroupHeartbeatRequestRow : OpenClaim := { program := "ytcjleenkjlafaaa", sum := "a619a956aba5b441f7e5fba03f21e2be53aacd62df3a90266e434f6380786260", func := "pub-mailsack/laws.FnMakeShareGroupHeartbeatRequest", spec := "fnMakeShareGroupHeartbeatRequest", inPlace := ["internal/reflectlite.ValueOf", "internal/reflectlite.Swapper", "(internal/reflectlite.Value).Len"], unfollowed := true, recurses := true, loops := true, apart := false }
def FnMakeShareGroupHeartbeatRequestSaid : Prop := fnMakeShareGroupHeartbeatRequestRow.holds Try.pinned (OpenSpec.ofChange fnMakeShareGroupHeartbeatRequestSpec)

/-- ITS FALSE NEIGHBOUR: 'it returns false'. Refute it at one input. -/
def fnMakeShareGroupHeartbeatRequestWrong : ChangeSpec := { name := "fnMakeShareGroupHeartbeatRequest", fn := fun _ => fun
  | [d1, d2] => { results := [.lit (.bool false)], args := [d1, d2] }
  | _ => none }
def FnMakeShareGroupHeartbeatRequestWrongFalsely : Prop := fnMakeShareGroupHeartbeatRequestRow.holds Try.pinned (OpenSpec.ofChange fnMakeShareGroupHeartbeatRequestWrong)

/-- 'laws.FnMakeElectLeadersRequest': WHATEVER THE INPUT: true; the input reads as it did. -/
def fnMakeElectLeadersRequestSpec : ChangeSpec := { name := "fnMakeElectLeadersRequest", fn := fun _ => fun
  | [d1, d2] => { results := [.lit (.bool true)], args := [d1, d2] }
  | _ => none }
def fnMakeElectLeadersRequestRow : OpenClaim := { program := "ytcjleenkjlafaaa", sum := "a619a956aba5b441f7e5fba03f21e2be53aacd62df3a90266e434f6380786260", func := "pub-mailsack/laws.FnMakeElectLeadersRequest", spec := "fnMakeElectLeadersRequest", inPlace := ["internal/reflectlite.ValueOf", "internal/reflectlite.Swapper", "(internal/reflectlite.Value).Len"], unfollowed := true, recurses := true, loops := true, apart := false }
def FnMakeElectLeadersRequestSaid : Prop := fnMakeElectLeadersRequestRow.holds Try.pinned (OpenSpec.ofChange fnMakeElectLeadersRequestSpec)

/-- ITS FALSE NEIGHBOUR: 'it returns false'. Refute it at one input. -/
def fnMakeElectLeadersRequestWrong : ChangeSpec := { name := "fnMakeElectLeadersRequest", fn := fun _ => fun
  | [d1, d2] => { results := [.lit (.bool false)], args := [d1, d2] }
  | _ => none }
def FnMakeElectLeadersRequestWrongFalsely : Prop := fnMakeElectLeadersRequestRow.holds Try.pinned (OpenSpec.ofChange fnMakeElectLeadersRequestWrong)

/-- 'laws.FnMakeDeleteShareGroupStateRequest': WHATEVER THE INPUT: true; the input reads as it did. -/
def fnMakeDeleteShareGroupStateRequestSpec : ChangeSpec := { name := "fnMakeDeleteShareGroupStateRequest", fn := fun _ => fun
  | [d1, d2] => { results := [.lit (.bool true)], args := [d1, d2] }
  | _ => none }
def fnMakeDeleteShareGroupStateRequestRow : OpenClaim := { program := "ytcjleenkjlafaaa", sum := "a619a956aba5b441f7e5fba03f21e2be53aacd62df3a90266e434f6380786260", func := "pub-mailsack/laws.FnMakeDeleteShareGroupStateRequest", spec := "fnMakeDeleteShareGroupStateRequest", inPlace := ["internal/reflectlite.ValueOf", "internal/reflectlite.Swapper", "(internal/reflectlite.Value).Len"], unfollowed := true, recurses := true, loops := true, apart := false }
def FnMakeDeleteShareGroupStateRequestSaid : Prop := fnMakeDeleteShareGroupStateRequestRow.holds Try.pinned (OpenSpec.ofChange fnMakeDeleteShareGroupStateRequestSpec)

/-- ITS FALSE NEIGHBOUR: 'it returns false'. Refute it at one input. -/
def fnMakeDeleteShareGroupStateRequestWrong : ChangeSpec := { name := "fnMakeDeleteShareGroupStateRequest", fn := fun _ => fun
  | [d1, d2] => { results := [.lit (.bool false)], args := [d1, d2] }
  | _ => none }
def FnMakeDeleteShareGroupStateRequestWrongFalsely : Prop := fnMakeDeleteShareGroupStateRequestRow.holds Try.pinned (OpenSpec.ofChange fnMakeDeleteShareGroupStateRequestWrong)

/-- 'laws.FnMakeDescribeTopicPartitionsRequest': WHATEVER THE INPUT: true; the input reads as it did. -/
def fnMakeDescribeTopicPartitionsRequestSpec : ChangeSpec := { name := "fnMakeDescribeTopicPartitionsRequest", fn := fun _ => fun
  | [d1, d2] => { results := [.lit (.bool true)], args := [d1, d2] }
  | _ => none }
def fnMakeDescribeTopicPartitionsRequestRow : OpenClaim := { program := "ytcjleenkjlafaaa", sum := "a619a956aba5b441f7e5fba03f21e2be53aacd62df3a90266e434f6380786260", func := "pub-mailsack/laws.FnMakeDescribeTopicPartitionsRequest", spec := "fnMakeDescribeTopicPartitionsRequest", inPlace := ["internal/reflectlite.ValueOf", "internal/reflectlite.Swapper", "(internal/reflectlite.Value).Len"], unfollowed := true, recurses := true, loops := true, apart := false }
def FnMakeDescribeTopicPartitionsRequestSaid : Prop := fnMakeDescribeTopicPartitionsRequestRow.holds Try.pinned (OpenSpec.ofChange fnMakeDescribeTopicPartitionsRequestSpec)

/-- ITS FALSE NEIGHBOUR: 'it returns false'. Refute it at one input. -/
def fnMakeDescribeTopicPartitionsRequestWrong : ChangeSpec := { name := "fnMakeDescribeTopicPartitionsRequest", fn := fun _ => fun
  | [d1, d2] => { results := [.lit (.bool false)], args := [d1, d2] }
  | _ => none }
def FnMakeDescribeTopicPartitionsRequestWrongFalsely : Prop := fnMakeDescribeTopicPartitionsRequestRow.holds Try.pinned (OpenSpec.ofChange fnMakeDescribeTopicPartitionsRequestWrong)

/-- 'laws.FnMakeAddRaftVoterRequest': WHATEVER THE INPUT: true; the input reads as it did. -/
def fnMakeAddRaftVoterRequestSpec : ChangeSpec := { name := "fnMakeAddRaftVoterRequest", fn := fun _ => fun
  | [d1, d2] => { results := [.lit (.bool true)], args := [d1, d2] }
  | _ => none }
def fnMakeAddRaftVoterRequestRow : OpenClaim := { program := "ytcjleenkjlafaaa", sum := "a619a956aba5b441f7e5fba03f21e2be53aacd62df3a90266e434f6380786260", func := "pub-mailsack/laws.FnMakeAddRaftVoterRequest", spec := "fnMakeAddRaftVoterRequest", inPlace := ["internal/reflectlite.ValueOf", "internal/reflectlite.Swapper", "(internal/reflectlite.Value).Len"], unfollowed := true, recurses := true, loops := true, apart := false }
def FnMakeAddRaftVoterRequestSaid : Prop := fnMakeAddRaftVoterRequestRow.holds Try.pinned (OpenSpec.ofChange fnMakeAddRaftVoterRequestSpec)

/-- ITS FALSE NEIGHBOUR: 'it returns false'. Refute it at one input. -/
def fnMakeAddRaftVoterRequestWrong : ChangeSpec := { name := "fnMakeAddRaftVoterRequest", fn := fun _ => fun
  | [d1, d2] => { results := [.lit (.bool false)], args := [d1, d2] }
  | _ => none }
def FnMakeAddRaftVoterRequestWrongFalsely : Prop := fnMakeAddRaftVoterRequestRow.holds Try.pinned (OpenSpec.ofChange fnMakeAddRaftVoterRequestWrong)

/-- 'laws.FnMakeLeaderAndISRResponse': WHATEVER THE INPUT: true; the input reads as it did. -/
def fnMakeLeaderAndISRResponseSpec : ChangeSpec := { name := "fnMakeLeaderAndISRResponse", fn := fun _ => fun
  | [d1, d2] => { results := [.lit (.bool true)], args := [d1, d2] }
  | _ => none }
def fnMakeLeaderAndISRResponseRow : OpenClaim := { program := "ytcjleenkjlafaaa", sum := "a619a956aba5b441f7e5fba03f21e2be53aacd62df3a90266e434f6380786260", func := "pub-mailsack/laws.FnMakeLeaderAndISRResponse", spec := "fnMakeLeaderAndISRResponse", inPlace := ["internal/reflectlite.ValueOf", "internal/reflectlite.Swapper", "(internal/reflectlite.Value).Len"], unfollowed := true, recurses := true, loops := true, apart := false }
def FnMakeLeaderAndISRResponseSaid : Prop := fnMakeLeaderAndISRResponseRow.holds Try.pinned (OpenSpec.ofChange fnMakeLeaderAndISRResponseSpec)

/-- ITS FALSE NEIGHBOUR: 'it returns false'. Refute it at one input. -/
def fnMakeLeaderAndISRResponseWrong : ChangeSpec := { name := "fnMakeLeaderAndISRResponse", fn := fun _ => fun
  | [d1, d2] => { results := [.lit (.bool false)], args := [d1, d2] }
  | _ => none }
def FnMakeLeaderAndISRResponseWrongFalsely : Prop := fnMakeLeaderAndISRResponseRow.holds Try.pinned (OpenSpec.ofChange fnMakeLeaderAndISRResponseWrong)

/-- 'laws.FnMakeControllerRegistrationRequest': WHATEVER THE INPUT: true; the input reads as it did. -/
def fnMakeControllerRegistrationRequestSpec : ChangeSpec := { name := "fnMakeControllerRegistrationRequest", fn := fun _ => fun
  | [d1, d2] => { results := [.lit (.bool true)], args := [d1, d2] }
  | _ => none }
def fnMakeControllerRegistrationRequestRow : OpenClaim := { program := "ytcjleenkjlafaaa", sum := "a619a956aba5b441f7e5fba03f21e2be53aacd62df3a90266e434f6380786260", func := "pub-mailsack/laws.FnMakeControllerRegistrationRequest", spec := "fnMakeControllerRegistrationRequest", inPlace := ["internal/reflectlite.ValueOf", "internal/reflectlite.Swapper", "(internal/reflectlite.Value).Len"], unfollowed := true, recurses := true, loops := true, apart := false }
def FnMakeControllerRegistrationRequestSaid : Prop := fnMakeControllerRegistrationRequestRow.holds Try.pinned (OpenSpec.ofChange fnMakeControllerRegistrationRequestSpec)

/-- ITS FALSE NEIGHBOUR: 'it returns false'. Refute it at one input. -/
def fnMakeControllerRegistrationRequestWrong : ChangeSpec := { name := "fnMakeControllerRegistrationRequest", fn := fun _ => fun
  | [d1, d2] => { results := [.lit (.bool false)], args := [d1, d2] }
  | _ => none }
def FnMakeControllerRegistrationRequestWrongFalsely : Prop := fnMakeControllerRegistrationRequestRow.holds Try.pinned (OpenSpec.ofChange fnMakeControllerRegistrationRequestWrong)

/-- 'laws.FnMakeConsumerGroupHeartbeatResponse': WHATEVER THE INPUT: true; the input reads as it did. -/
def fnMakeConsumerGroupHeartbeatResponseSpec : ChangeSpec := { name := "fnMakeConsumerGroupHeartbeatResponse", fn := fun _ => fun
  | [d1, d2] => { results := [.lit (.bool true)], args := [d1, d2] }
  | _ => none }
def fnMakeConsumerGroupHeartbeatResponseRow : OpenClaim := { program := "ytcjleenkjlafaaa", sum := "a619a956aba5b441f7e5fba03f21e2be53aacd62df3a90266e434f6380786260", func := "pub-mailsack/laws.FnMakeConsumerGroupHeartbeatResponse", spec := "fnMakeConsumerGroupHeartbeatResponse", inPlace := ["internal/reflectlite.ValueOf", "internal/reflectlite.Swapper", "(internal/reflectlite.Value).Len"], unfollowed := true, recurses := true, loops := true, apart := false }
def FnMakeConsumerGroupHeartbeatResponseSaid : Prop := fnMakeConsumerGroupHeartbeatResponseRow.holds Try.pinned (OpenSpec.ofChange fnMakeConsumerGroupHeartbeatResponseSpec)

/-- ITS FALSE NEIGHBOUR: 'it returns false'. Refute it at one input. -/
def fnMakeConsumerGroupHeartbeatResponseWrong : ChangeSpec := { name := "fnMakeConsumerGroupHeartbeatResponse", fn := fun _ => fun
  | [d1, d2] => { results := [.lit (.bool false)], args := [d1, d2] }
  | _ => none }
def FnMakeConsumerGroupHeartbeatResponseWrongFalsely : Prop := fnMakeConsumerGroupHeartbeatResponseRow.holds Try.pinned (OpenSpec.ofChange fnMakeConsumerGroupHeartbeatResponseWrong)

/- THE SECOND FORM. 'bulk': how many values and letters a reading holds, each counted each time it is reached (what is shared counts as often as it is met; a slice's spare places count too). A statement '..UptoSaid' is the law's where the arguments, and the package variables that the reading takes, are together of bulk at most 1048576: NARROWER than '..Said'. Prove '..Said' where nothing that the law and all that it calls make is longer than what came in: it says more and counts as full. Else prove '..UptoSaid'. A law counts once. -/
mutual
def uptoBulk {H : Type} : DataW H → Nat
  | .lit (.string bytes) => bytes.length + 1
  | .lit _ => 1
  | .nil => 1
  | .ptr d => uptoBulk d + 1
  | .slice elems spare => uptoBulkAll elems + uptoBulkAll spare + 1
  | .agg parts => uptoBulkAll parts + 1
  | .iface _ d => uptoBulk d + 1
  | .map entries => uptoBulkEntries entries + 1
  | .held _ => 1
def uptoBulkAll {H : Type} : List (DataW H) → Nat
  | [] => 0
  | d :: r => uptoBulk d + uptoBulkAll r
def uptoBulkEntries {H : Type} : List (Lit × DataW H) → Nat
  | [] => 0
  | x :: r => uptoBulkEntry x + uptoBulkEntries r
def uptoBulkEntry {H : Type} : Lit × DataW H → Nat
  | (.string bytes, d) => bytes.length + uptoBulk d + 1
  | (_, d) => uptoBulk d + 1
 end
def uptoSmall : (H : Type) → List (DataW H) → Bool := fun _ ds => decide (uptoBulkAll ds ≤ 1048576)
def OpenSpec.upto (s : _root_.Go.ChangeSpec) : _root_.Go.OpenSpec := { _root_.Go.OpenSpec.ofChange s with cond := some uptoSmall }

/-- 'laws.FnMakeDeleteGroupsRequest', WHERE WHAT IT READS IS OF BULK AT MOST 1048576: true; the input reads as it did. -/
def fnMakeDeleteGroupsRequestUptoRow : OpenClaim := { program := "ytcjleenkjlafaaa", sum := "a619a956aba5b441f7e5fba03f21e2be53aacd62df3a90266e434f6380786260", func := "pub-mailsack/laws.FnMakeDeleteGroupsRequest", spec := "fnMakeDeleteGroupsRequest", inPlace := ["internal/reflectlite.ValueOf", "internal/reflectlite.Swapper", "(internal/reflectlite.Value).Len"], unfollowed := true, recurses := true, loops := true, apart := false, narrowed := true }
def FnMakeDeleteGroupsRequestUptoSaid : Prop := fnMakeDeleteGroupsRequestUptoRow.holds Try.pinned (OpenSpec.upto fnMakeDeleteGroupsRequestSpec)

/-- 'laws.FnMakeCreateACLsResponse', WHERE WHAT IT READS IS OF BULK AT MOST 1048576: true; the input reads as it did. -/
def fnMakeCreateACLsResponseUptoRow : OpenClaim := { program := "ytcjleenkjlafaaa", sum := "a619a956aba5b441f7e5fba03f21e2be53aacd62df3a90266e434f6380786260", func := "pub-mailsack/laws.FnMakeCreateACLsResponse", spec := "fnMakeCreateACLsResponse", inPlace := ["internal/reflectlite.ValueOf", "internal/reflectlite.Swapper", "(internal/reflectlite.Value).Len"], unfollowed := true, recurses := true, loops := true, apart := false, narrowed := true }
def FnMakeCreateACLsResponseUptoSaid : Prop := fnMakeCreateACLsResponseUptoRow.holds Try.pinned (OpenSpec.upto fnMakeCreateACLsResponseSpec)

/-- 'laws.FnMakeShareGroupHeartbeatRequest', WHERE WHAT IT READS IS OF BULK AT MOST 1048576: true; the input reads as it did. -/
def fnMakeShareGroupHeartbeatRequestUptoRow : OpenClaim := { program := "ytcjleenkjlafaaa", sum := "a619a956aba5b441f7e5fba03f21e2be53aacd62df3a90266e434f6380786260", func := "pub-mailsack/laws.FnMakeShareGroupHeartbeatRequest", spec := "fnMakeShareGroupHeartbeatRequest", inPlace := ["internal/reflectlite.ValueOf", "internal/reflectlite.Swapper", "(internal/reflectlite.Value).Len"], unfollowed := true, recurses := true, loops := true, apart := false, narrowed := true }
def FnMakeShareGroupHeartbeatRequestUptoSaid : Prop := fnMakeShareGroupHeartbeatRequestUptoRow.holds Try.pinned (OpenSpec.upto fnMakeShareGroupHeartbeatRequestSpec)

/-- 'laws.FnMakeElectLeadersRequest', WHERE WHAT IT READS IS OF BULK AT MOST 1048576: true; the input reads as it did. -/
def fnMakeElectLeadersRequestUptoRow : OpenClaim := { program := "ytcjleenkjlafaaa", sum := "a619a956aba5b441f7e5fba03f21e2be53aacd62df3a90266e434f6380786260", func := "pub-mailsack/laws.FnMakeElectLeadersRequest", spec := "fnMakeElectLeadersRequest", inPlace := ["internal/reflectlite.ValueOf", "internal/reflectlite.Swapper", "(internal/reflectlite.Value).Len"], unfollowed := true, recurses := true, loops := true, apart := false, narrowed := true }
def FnMakeElectLeadersRequestUptoSaid : Prop := fnMakeElectLeadersRequestUptoRow.holds Try.pinned (OpenSpec.upto fnMakeElectLeadersRequestSpec)

/-- 'laws.FnMakeDeleteShareGroupStateRequest', WHERE WHAT IT READS IS OF BULK AT MOST 1048576: true; the input reads as it did. -/
def fnMakeDeleteShareGroupStateRequestUptoRow : OpenClaim := { program := "ytcjleenkjlafaaa", sum := "a619a956aba5b441f7e5fba03f21e2be53aacd62df3a90266e434f6380786260", func := "pub-mailsack/laws.FnMakeDeleteShareGroupStateRequest", spec := "fnMakeDeleteShareGroupStateRequest", inPlace := ["internal/reflectlite.ValueOf", "internal/reflectlite.Swapper", "(internal/reflectlite.Value).Len"], unfollowed := true, recurses := true, loops := true, apart := false, narrowed := true }
def FnMakeDeleteShareGroupStateRequestUptoSaid : Prop := fnMakeDeleteShareGroupStateRequestUptoRow.holds Try.pinned (OpenSpec.upto fnMakeDeleteShareGroupStateRequestSpec)

/-- 'laws.FnMakeDescribeTopicPartitionsRequest', WHERE WHAT IT READS IS OF BULK AT MOST 1048576: true; the input reads as it did. -/
def fnMakeDescribeTopicPartitionsRequestUptoRow : OpenClaim := { program := "ytcjleenkjlafaaa", sum := "a619a956aba5b441f7e5fba03f21e2be53aacd62df3a90266e434f6380786260", func := "pub-mailsack/laws.FnMakeDescribeTopicPartitionsRequest", spec := "fnMakeDescribeTopicPartitionsRequest", inPlace := ["internal/reflectlite.ValueOf", "internal/reflectlite.Swapper", "(internal/reflectlite.Value).Len"], unfollowed := true, recurses := true, loops := true, apart := false, narrowed := true }
def FnMakeDescribeTopicPartitionsRequestUptoSaid : Prop := fnMakeDescribeTopicPartitionsRequestUptoRow.holds Try.pinned (OpenSpec.upto fnMakeDescribeTopicPartitionsRequestSpec)

/-- 'laws.FnMakeAddRaftVoterRequest', WHERE WHAT IT READS IS OF BULK AT MOST 1048576: true; the input reads as it did. -/
def fnMakeAddRaftVoterRequestUptoRow : OpenClaim := { program := "ytcjleenkjlafaaa", sum := "a619a956aba5b441f7e5fba03f21e2be53aacd62df3a90266e434f6380786260", func := "pub-mailsack/laws.FnMakeAddRaftVoterRequest", spec := "fnMakeAddRaftVoterRequest", inPlace := ["internal/reflectlite.ValueOf", "internal/reflectlite.Swapper", "(internal/reflectlite.Value).Len"], unfollowed := true, recurses := true, loops := true, apart := false, narrowed := true }
def FnMakeAddRaftVoterRequestUptoSaid : Prop := fnMakeAddRaftVoterRequestUptoRow.holds Try.pinned (OpenSpec.upto fnMakeAddRaftVoterRequestSpec)

/-- 'laws.FnMakeLeaderAndISRResponse', WHERE WHAT IT READS IS OF BULK AT MOST 1048576: true; the input reads as it did. -/
def fnMakeLeaderAndISRResponseUptoRow : OpenClaim := { program := "ytcjleenkjlafaaa", sum := "a619a956aba5b441f7e5fba03f21e2be53aacd62df3a90266e434f6380786260", func := "pub-mailsack/laws.FnMakeLeaderAndISRResponse", spec := "fnMakeLeaderAndISRResponse", inPlace := ["internal/reflectlite.ValueOf", "internal/reflectlite.Swapper", "(internal/reflectlite.Value).Len"], unfollowed := true, recurses := true, loops := true, apart := false, narrowed := true }
def FnMakeLeaderAndISRResponseUptoSaid : Prop := fnMakeLeaderAndISRResponseUptoRow.holds Try.pinned (OpenSpec.upto fnMakeLeaderAndISRResponseSpec)

/-- 'laws.FnMakeControllerRegistrationRequest', WHERE WHAT IT READS IS OF BULK AT MOST 1048576: true; the input reads as it did. -/
def fnMakeControllerRegistrationRequestUptoRow : OpenClaim := { program := "ytcjleenkjlafaaa", sum := "a619a956aba5b441f7e5fba03f21e2be53aacd62df3a90266e434f6380786260", func := "pub-mailsack/laws.FnMakeControllerRegistrationRequest", spec := "fnMakeControllerRegistrationRequest", inPlace := ["internal/reflectlite.ValueOf", "internal/reflectlite.Swapper", "(internal/reflectlite.Value).Len"], unfollowed := true, recurses := true, loops := true, apart := false, narrowed := true }
def FnMakeControllerRegistrationRequestUptoSaid : Prop := fnMakeControllerRegistrationRequestUptoRow.holds Try.pinned (OpenSpec.upto fnMakeControllerRegistrationRequestSpec)

/-- 'laws.FnMakeConsumerGroupHeartbeatResponse', WHERE WHAT IT READS IS OF BULK AT MOST 1048576: true; the input reads as it did. -/
def fnMakeConsumerGroupHeartbeatResponseUptoRow : OpenClaim := { program := "ytcjleenkjlafaaa", sum := "a619a956aba5b441f7e5fba03f21e2be53aacd62df3a90266e434f6380786260", func := "pub-mailsack/laws.FnMakeConsumerGroupHeartbeatResponse", spec := "fnMakeConsumerGroupHeartbeatResponse", inPlace := ["internal/reflectlite.ValueOf", "internal/reflectlite.Swapper", "(internal/reflectlite.Value).Len"], unfollowed := true, recurses := true, loops := true, apart := false, narrowed := true }
def FnMakeConsumerGroupHeartbeatResponseUptoSaid : Prop := fnMakeConsumerGroupHeartbeatResponseUptoRow.holds Try.pinned (OpenSpec.upto fnMakeConsumerGroupHeartbeatResponseSpec)

end Rows
end Go.Proofs.Ytcjleenkjlafaaa
