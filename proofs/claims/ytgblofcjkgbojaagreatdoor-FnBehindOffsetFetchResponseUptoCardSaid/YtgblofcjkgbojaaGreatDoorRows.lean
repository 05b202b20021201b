/-
  NARROWER THAN 'FOR EVERY INPUT', by the rows' own cells (each row's printed sentence says how): FnBehindReadShareGroupStateSummaryRequest: loops, laid · FnBehindGetTelemetrySubscriptionsResponse: loops, laid · FnBehindAlterClientQuotasResponse: loops, laid · FnBehindJoinGroupRequest: loops, laid · FnBehindDescribeLogDirsResponse: loops, laid · FnBehindDescribeACLsResponse: loops, laid · FnBehindOffsetFetchResponse: loops, laid.
  DERIVED. THE GIVEN ROWS OF THIS SEAT. 7 by the template 'for every input the law returns true; each argument reads behind the call as it read before'; 0 by the template 'total and deterministic' (their statements: YtgblofcjkgbojaaGreatDoorTotals.lean).
  GIVEN WITH THE SEED: the statements are not yours to turn. If you find one false, say at which input.
  Laid BY PROGRAM, IN A SANDBOX (cutbox-rows.mjs): the forced cells as the released guide's own fill.sh prints them over the translation 9bb7aa671e32abaf… (all of the seat's roots in one cut). By AI agents, Wed Nov 11 2026. No macro, syntax, notation, axiom, sorry.
-/
import Derived.Test.YtgblofcjkgbojaaGreatDoorChecked
import GoSem.Claim
import GoSem.ClaimJoined
import GoSem.ClaimMapViews
import Derived.JoinedTies
import Derived.KernelRfl
namespace Go.Proofs.YtgblofcjkgbojaaGreatDoor
/- THE CELL 'sum', in the pinned program and in every row, IS THE sha256 OF THE DUMP (.gsa) THAT YtgblofcjkgbojaaGreatDoorProg.lean LOADS. Nothing in Lean hashes anything: it is a label: what it is worth is what the hold of that sum in a sandbox is worth. -/
noncomputable def Tryz.pinned : Pinned := { name := "ytgblofcjkgbojaagreatdoor", sum := "9bb7aa671e32abafabad0e849d4df8d87cc31198ba58f18cb198ee9297e091d2", checked := Tryz.checked }
namespace Rows
def none {H : Type} : Left H := { results := [], args := [] }

/- WHAT THE LISTED PACKAGE-LEVEL VARIABLES READ AS WHEN THE CALL BEGINS. Each datum BY PROGRAM (the guide's laid-datum.mjs) off the statement by which the dump's own 'gosem.cut.vars' lays the variable. In a bare row this is a premise. The card (YtgblofcjkgbojaaGreatDoorCards.lean) ties it to the program's text. -/
def laid_pub_mailsack_pub_kmsg_inner_kbin_ErrNotEnoughData {H : Type} : DataW H := .iface "*errors.errorString" (.ptr (.agg [.lit (.string [114, 101, 115, 112, 111, 110, 115, 101, 32, 100, 105, 100, 32, 110, 111, 116, 32, 99, 111, 110, 116, 97, 105, 110, 32, 101, 110, 111, 117, 103, 104, 32, 100, 97, 116, 97, 32, 116, 111, 32, 98, 101, 32, 118, 97, 108, 105, 100])]))

/-- 'laws.FnBehindReadShareGroupStateSummaryRequest': WHATEVER THE INPUT: true; the input reads as it did. -/
def fnBehindReadShareGroupStateSummaryRequestSpec : ChangeSpec := { name := "fnBehindReadShareGroupStateSummaryRequest", fn := fun _ => fun
  | [d1, d2, d3] => { results := [.lit (.bool true)], args := [d1, d2, d3] }
  | _ => none }
def fnBehindReadShareGroupStateSummaryRequestRow : OpenClaim := { program := "ytgblofcjkgbojaagreatdoor", sum := "9bb7aa671e32abafabad0e849d4df8d87cc31198ba58f18cb198ee9297e091d2", func := "pub-mailsack/laws.FnBehindReadShareGroupStateSummaryRequest", spec := "fnBehindReadShareGroupStateSummaryRequest", inPlace := ["internal/reflectlite.ValueOf", "internal/reflectlite.Swapper", "(internal/reflectlite.Value).Len"], unfollowed := true, recurses := true, named := ["encoding/binary.BigEndian", "pub-mailsack/pub/kmsg/inner/kbin.ErrNotEnoughData"], loops := true, apart := false, laid := [("pub-mailsack/pub/kmsg/inner/kbin.ErrNotEnoughData", laid_pub_mailsack_pub_kmsg_inner_kbin_ErrNotEnoughData)] }
def FnBehindReadShareGroupStateSummaryRequestSaid : Prop := fnBehindReadShareGroupStateSummaryRequestRow.holds Tryz.pinned (OpenSpec.ofChange fnBehindReadShareGroupStateSummaryRequestSpec)

/-- ITS FALSE NEIGHBOUR: 'it returns false'. Refute it at one input. -/
def fnBehindReadShareGroupStateSummaryRequestWrong : ChangeSpec := { name := "fnBehindReadShareGroupStateSummaryRequest", fn := fun _ => fun
  | [d1, d2, d3] => { results := [.lit (.bool false)], args := [d1, d2, d3] }
  | _ => none }
def FnBehindReadShareGroupStateSummaryRequestWrongFalsely : Prop := fnBehindReadShareGroupStateSummaryRequestRow.holds Tryz.pinned (OpenSpec.ofChange fnBehindReadShareGroupStateSummaryRequestWrong)

/-- 'laws.FnBehindGetTelemetrySubscriptionsResponse': WHATEVER THE INPUT: true; the input reads as it did. -/
def fnBehindGetTelemetrySubscriptionsResponseSpec : ChangeSpec := { name := "fnBehindGetTelemetrySubscriptionsResponse", fn := fun _ => fun
  | [d1, d2, d3] => { results := [.lit (.bool true)], args := [d1, d2, d3] }
  | _ => none }
def fnBehindGetTelemetrySubscriptionsResponseRow : OpenClaim := { program := "ytgblofcjkgbojaagreatdoor", sum := "9bb7aa671e32abafabad0e849d4df8d87cc31198ba58f18cb198ee9297e091d2", func := "pub-mailsack/laws.FnBehindGetTelemetrySubscriptionsResponse", spec := "fnBehindGetTelemetrySubscriptionsResponse", inPlace := ["internal/reflectlite.ValueOf", "internal/reflectlite.Swapper", "(internal/reflectlite.Value).Len"], unfollowed := true, recurses := true, named := ["encoding/binary.BigEndian", "pub-mailsack/pub/kmsg/inner/kbin.ErrNotEnoughData"], loops := true, apart := false, laid := [("pub-mailsack/pub/kmsg/inner/kbin.ErrNotEnoughData", laid_pub_mailsack_pub_kmsg_inner_kbin_ErrNotEnoughData)] }
def FnBehindGetTelemetrySubscriptionsResponseSaid : Prop := fnBehindGetTelemetrySubscriptionsResponseRow.holds Tryz.pinned (OpenSpec.ofChange fnBehindGetTelemetrySubscriptionsResponseSpec)

/-- ITS FALSE NEIGHBOUR: 'it returns false'. Refute it at one input. -/
def fnBehindGetTelemetrySubscriptionsResponseWrong : ChangeSpec := { name := "fnBehindGetTelemetrySubscriptionsResponse", fn := fun _ => fun
  | [d1, d2, d3] => { results := [.lit (.bool false)], args := [d1, d2, d3] }
  | _ => none }
def FnBehindGetTelemetrySubscriptionsResponseWrongFalsely : Prop := fnBehindGetTelemetrySubscriptionsResponseRow.holds Tryz.pinned (OpenSpec.ofChange fnBehindGetTelemetrySubscriptionsResponseWrong)

/-- 'laws.FnBehindAlterClientQuotasResponse': WHATEVER THE INPUT: true; the input reads as it did. -/
def fnBehindAlterClientQuotasResponseSpec : ChangeSpec := { name := "fnBehindAlterClientQuotasResponse", fn := fun _ => fun
  | [d1, d2, d3] => { results := [.lit (.bool true)], args := [d1, d2, d3] }
  | _ => none }
def fnBehindAlterClientQuotasResponseRow : OpenClaim := { program := "ytgblofcjkgbojaagreatdoor", sum := "9bb7aa671e32abafabad0e849d4df8d87cc31198ba58f18cb198ee9297e091d2", func := "pub-mailsack/laws.FnBehindAlterClientQuotasResponse", spec := "fnBehindAlterClientQuotasResponse", inPlace := ["internal/reflectlite.ValueOf", "internal/reflectlite.Swapper", "(internal/reflectlite.Value).Len"], unfollowed := true, recurses := true, named := ["encoding/binary.BigEndian", "pub-mailsack/pub/kmsg/inner/kbin.ErrNotEnoughData"], loops := true, apart := false, laid := [("pub-mailsack/pub/kmsg/inner/kbin.ErrNotEnoughData", laid_pub_mailsack_pub_kmsg_inner_kbin_ErrNotEnoughData)] }
def FnBehindAlterClientQuotasResponseSaid : Prop := fnBehindAlterClientQuotasResponseRow.holds Tryz.pinned (OpenSpec.ofChange fnBehindAlterClientQuotasResponseSpec)

/-- ITS FALSE NEIGHBOUR: 'it returns false'. Refute it at one input. -/
def fnBehindAlterClientQuotasResponseWrong : ChangeSpec := { name := "fnBehindAlterClientQuotasResponse", fn := fun _ => fun
  | [d1, d2, d3] => { results := [.lit (.bool false)], args := [d1, d2, d3] }
  | _ => none }
def FnBehindAlterClientQuotasResponseWrongFalsely : Prop := fnBehindAlterClientQuotasResponseRow.holds Tryz.pinned (OpenSpec.ofChange fnBehindAlterClientQuotasResponseWrong)

/-- 'laws.FnBehindJoinGroupRequest': WHATEVER THE INPUT: true; the input reads as it did. -/
def fnBehindJoinGroupRequestSpec : ChangeSpec := { name := "fnBehindJoinGroupRequest", fn := fun _ => fun
  | [d1, d2, d3] => { results := [.lit (.bool true)], args := [d1, d2, d3] }
  | _ => none }
def fnBehindJoinGroupRequestRow : OpenClaim := { program := "ytgblofcjkgbojaagreatdoor", sum := "9bb7aa671e32abafabad0e849d4df8d87cc31198ba58f18cb198ee9297e091d2", func := "pub-mailsack/laws.FnBehindJoinGroupRequest", spec := "fnBehindJoinGroupRequest", inPlace := ["internal/reflectlite.ValueOf", "internal/reflectlite.Swapper", "(internal/reflectlite.Value).Len"], unfollowed := true, recurses := true, named := ["encoding/binary.BigEndian", "pub-mailsack/pub/kmsg/inner/kbin.ErrNotEnoughData"], loops := true, apart := false, laid := [("pub-mailsack/pub/kmsg/inner/kbin.ErrNotEnoughData", laid_pub_mailsack_pub_kmsg_inner_kbin_ErrNotEnoughData)] }
def FnBehindJoinGroupRequestSaid : Prop := fnBehindJoinGroupRequestRow.holds Tryz.pinned (OpenSpec.ofChange fnBehindJoinGroupRequestSpec)

/-- ITS FALSE NEIGHBOUR: 'it returns false'. Refute it at one input. -/
def fnBehindJoinGroupRequestWrong : ChangeSpec := { name := "fnBehindJoinGroupRequest", fn := fun _ => fun
  | [d1, d2, d3] => { results := [.lit (.bool false)], args := [d1, d2, d3] }
  | _ => none }
def FnBehindJoinGroupRequestWrongFalsely : Prop := fnBehindJoinGroupRequestRow.holds Tryz.pinned (OpenSpec.ofChange fnBehindJoinGroupRequestWrong)

/-- 'laws.FnBehindDescribeLogDirsResponse': WHATEVER THE INPUT: true; the input reads as it did. -/
def fnBehindDescribeLogDirsResponseSpec : ChangeSpec := { name := "fnBehindDescribeLogDirsResponse", fn := fun _ => fun
  | [d1, d2, d3] => { results := [.lit (.bool true)], args := [d1, d2, d3] }
  | _ => none }
def fnBehindDescribeLogDirsResponseRow : OpenClaim := { program := "ytgblofcjkgbojaagreatdoor", sum := "9bb7aa671e32abafabad0e849d4df8d87cc31198ba58f18cb198ee9297e091d2", func := "pub-mailsack/laws.FnBehindDescribeLogDirsResponse", spec := "fnBehindDescribeLogDirsResponse", inPlace := ["internal/reflectlite.ValueOf", "internal/reflectlite.Swapper", "(internal/reflectlite.Value).Len"], unfollowed := true, recurses := true, named := ["encoding/binary.BigEndian", "pub-mailsack/pub/kmsg/inner/kbin.ErrNotEnoughData"], loops := true, apart := false, laid := [("pub-mailsack/pub/kmsg/inner/kbin.ErrNotEnoughData", laid_pub_mailsack_pub_kmsg_inner_kbin_ErrNotEnoughData)] }
def FnBehindDescribeLogDirsResponseSaid : Prop := fnBehindDescribeLogDirsResponseRow.holds Tryz.pinned (OpenSpec.ofChange fnBehindDescribeLogDirsResponseSpec)

/-- ITS FALSE NEIGHBOUR: 'it returns false'. Refute it at one input. -/
def fnBehindDescribeLogDirsResponseWrong : ChangeSpec := { name := "fnBehindDescribeLogDirsResponse", fn := fun _ => fun
  | [d1, d2, d3] => { results := [.lit (.bool false)], args := [d1, d2, d3] }
  | _ => none }
def FnBehindDescribeLogDirsResponseWrongFalsely : Prop := fnBehindDescribeLogDirsResponseRow.holds Tryz.pinned (OpenSpec.ofChange fnBehindDescribeLogDirsResponseWrong)

/-- 'laws.FnBehindDescribeACLsResponse': WHATEVER THE INPUT: true; the input reads as it did. -/
def fnBehindDescribeACLsResponseSpec : ChangeSpec := { name := "fnBehindDescribeACLsResponse", fn := fun _ => fun
  | [d1, d2, d3] => { results := [.lit (.bool true)], args := [d1, d2, d3] }
  | _ => none }
def fnBehindDescribeACLsResponseRow : OpenClaim := { program := "ytgblofcjkgbojaagreatdoor", sum := "9bb7aa671e32abafabad0e849d4df8d87cc31198ba58f18cb198ee9297e091d2", func := "pub-mailsack/laws.FnBehindDescribeACLsResponse", spec := "fnBehindDescribeACLsResponse", inPlace := ["internal/reflectlite.ValueOf", "internal/reflectlite.Swapper", "(internal/reflectlite.Value).Len"], unfollowed := true, recurses := true, named := ["encoding/binary.BigEndian", "pub-mailsack/pub/kmsg/inner/kbin.ErrNotEnoughData"], loops := true, apart := false, laid := [("pub-mailsack/pub/kmsg/inner/kbin.ErrNotEnoughData", laid_pub_mailsack_pub_kmsg_inner_kbin_ErrNotEnoughData)] }
def FnBehindDescribeACLsResponseSaid : Prop := fnBehindDescribeACLsResponseRow.holds Tryz.pinned (OpenSpec.ofChange fnBehindDescribeACLsResponseSpec)

/-- ITS FALSE NEIGHBOUR: 'it returns false'. Refute it at one input. -/
def fnBehindDescribeACLsResponseWrong : ChangeSpec := { name := "fnBehindDescribeACLsResponse", fn := fun _ => fun
  | [d1, d2, d3] => { results := [.lit (.bool false)], args := [d1, d2, d3] }
  | _ => none }
def FnBehindDescribeACLsResponseWrongFalsely : Prop := fnBehindDescribeACLsResponseRow.holds Tryz.pinned (OpenSpec.ofChange fnBehindDescribeACLsResponseWrong)

/-- 'laws.FnBehindOffsetFetchResponse': WHATEVER THE INPUT: true; the input reads as it did. -/
def fnBehindOffsetFetchResponseSpec : ChangeSpec := { name := "fnBehindOffsetFetchResponse", fn := fun _ => fun
  | [d1, d2, d3] => { results := [.lit (.bool true)], args := [d1, d2, d3] }
  | _ => none }
def fnBehindOffsetFetchResponseRow : OpenClaim := { program := "ytgblofcjkgbojaagreatdoor", sum := "9bb7aa671e32abafabad0e849d4df8d87cc31198ba58f18cb198ee9297e091d2", func := "pub-mailsack/laws.FnBehindOffsetFetchResponse", spec := "fnBehindOffsetFetchResponse", inPlace := ["internal/reflectlite.ValueOf", "internal/reflectlite.Swapper", "(internal/reflectlite.Value).Len"], unfollowed := true, recurses := true, named := ["encoding/binary.BigEndian", "pub-mailsack/pub/kmsg/inner/kbin.ErrNotEnoughData"], loops := true, apart := false, laid := [("pub-mailsack/pub/kmsg/inner/kbin.ErrNotEnoughData", laid_pub_mailsack_pub_kmsg_inner_kbin_ErrNotEnoughData)] }
def FnBehindOffsetFetchResponseSaid : Prop := fnBehindOffsetFetchResponseRow.holds Tryz.pinned (OpenSpec.ofChange fnBehindOffsetFetchResponseSpec)

/-- ITS FALSE NEIGHBOUR: 'it returns false'. Refute it at one input. -/
def fnBehindOffsetFetchResponseWrong : ChangeSpec := { name := "fnBehindOffsetFetchResponse", fn := fun _ => fun
  | [d1, d2, d3] => { results := [.lit (.bool false)], args := [d1, d2, d3] }
  | _ => none }
def FnBehindOffsetFetchResponseWrongFalsely : Prop := fnBehindOffsetFetchResponseRow.holds Tryz.pinned (OpenSpec.ofChange fnBehindOffsetFetchResponseWrong)

/- THE SECOND FORM. 'bulk': how many values and letters a reading holds, each counted each time it is reached (what is shared counts as often as it is met; a slice's spare places count too). A statement '..UptoSaid' is the law's where the arguments, and the package variables that the reading takes, are together of bulk at most 1048576: NARROWER than '..Said'. Prove '..Said' where nothing that the law and all that it calls make is longer than what came in: it says more and counts as full. Else prove '..UptoSaid'. A law counts once. -/
mutual
def uptoBulk {H : Type} : DataW H → Nat
  | .lit (.string bytes) => bytes.length + 1
  | .lit _ => 1
  | .nil => 1
  | .ptr d => uptoBulk d + 1
  | .slice elems spare => uptoBulkAll elems + uptoBulkAll spare + 1
  | .agg parts => uptoBulkAll parts + 1
  | .iface _ d => uptoBulk d + 1
  | .map entries => uptoBulkEntries entries + 1
  | .held _ => 1
def uptoBulkAll {H : Type} : List (DataW H) → Nat
  | [] => 0
  | d :: r => uptoBulk d + uptoBulkAll r
def uptoBulkEntries {H : Type} : List (Lit × DataW H) → Nat
  | [] => 0
  | x :: r => uptoBulkEntry x + uptoBulkEntries r
def uptoBulkEntry {H : Type} : Lit × DataW H → Nat
  | (.string bytes, d) => bytes.length + uptoBulk d + 1
  | (_, d) => uptoBulk d + 1
 end
def uptoSmall : (H : Type) → List (DataW H) → Bool := fun _ ds => decide (uptoBulkAll ds ≤ 1048576)
def OpenSpec.upto (s : _root_.Go.ChangeSpec) : _root_.Go.OpenSpec := { _root_.Go.OpenSpec.ofChange s with cond := some uptoSmall }

/-- 'laws.FnBehindReadShareGroupStateSummaryRequest', WHERE WHAT IT READS IS OF BULK AT MOST 1048576: true; the input reads as it did. -/
def fnBehindReadShareGroupStateSummaryRequestUptoRow : OpenClaim := { program := "ytgblofcjkgbojaagreatdoor", sum := "9bb7aa671e32abafabad0e849d4df8d87cc31198ba58f18cb198ee9297e091d2", func := "pub-mailsack/laws.FnBehindReadShareGroupStateSummaryRequest", spec := "fnBehindReadShareGroupStateSummaryRequest", inPlace := ["internal/reflectlite.ValueOf", "internal/reflectlite.Swapper", "(internal/reflectlite.Value).Len"], unfollowed := true, recurses := true, named := ["encoding/binary.BigEndian", "pub-mailsack/pub/kmsg/inner/kbin.ErrNotEnoughData"], loops := true, apart := false, laid := [("pub-mailsack/pub/kmsg/inner/kbin.ErrNotEnoughData", laid_pub_mailsack_pub_kmsg_inner_kbin_ErrNotEnoughData)], narrowed := true }
def FnBehindReadShareGroupStateSummaryRequestUptoSaid : Prop := fnBehindReadShareGroupStateSummaryRequestUptoRow.holds Tryz.pinned (OpenSpec.upto fnBehindReadShareGroupStateSummaryRequestSpec)

/-- 'laws.FnBehindGetTelemetrySubscriptionsResponse', WHERE WHAT IT READS IS OF BULK AT MOST 1048576: true; the input reads as it did. -/
def fnBehindGetTelemetrySubscriptionsResponseUptoRow : OpenClaim := { program := "ytgblofcjkgbojaagreatdoor", sum := "9bb7aa671e32abafabad0e849d4df8d87cc31198ba58f18cb198ee9297e091d2", func := "pub-mailsack/laws.FnBehindGetTelemetrySubscriptionsResponse", spec := "fnBehindGetTelemetrySubscriptionsResponse", inPlace := ["internal/reflectlite.ValueOf", "internal/reflectlite.Swapper", "(internal/reflectlite.Value).Len"], unfollowed := true, recurses := true, named := ["encoding/binary.BigEndian", "pub-mailsack/pub/kmsg/inner/kbin.ErrNotEnoughData"], loops := true, apart := false, laid := [("pub-mailsack/pub/kmsg/inner/kbin.ErrNotEnoughData", laid_pub_mailsack_pub_kmsg_inner_kbin_ErrNotEnoughData)], narrowed := true }
def FnBehindGetTelemetrySubscriptionsResponseUptoSaid : Prop := fnBehindGetTelemetrySubscriptionsResponseUptoRow.holds Tryz.pinned (OpenSpec.upto fnBehindGetTelemetrySubscriptionsResponseSpec)

/-- 'laws.FnBehindAlterClientQuotasResponse', WHERE WHAT IT READS IS OF BULK AT MOST 1048576: true; the input reads as it did. -/
def fnBehindAlterClientQuotasResponseUptoRow : OpenClaim := { program := "ytgblofcjkgbojaagreatdoor", sum := "9bb7aa671e32abafabad0e849d4df8d87cc31198ba58f18cb198ee9297e091d2", func := "pub-mailsack/laws.FnBehindAlterClientQuotasResponse", spec := "fnBehindAlterClientQuotasResponse", inPlace := ["internal/reflectlite.ValueOf", "internal/reflectlite.Swapper", "(internal/reflectlite.Value).Len"], unfollowed := true, recurses := true, named := ["encoding/binary.BigEndian", "pub-mailsack/pub/kmsg/inner/kbin.ErrNotEnoughData"], loops := true, apart := false, laid := [("pub-mailsack/pub/kmsg/inner/kbin.ErrNotEnoughData", laid_pub_mailsack_pub_kmsg_inner_kbin_ErrNotEnoughData)], narrowed := true }
def FnBehindAlterClientQuotasResponseUptoSaid : Prop := fnBehindAlterClientQuotasResponseUptoRow.holds Tryz.pinned (OpenSpec.upto fnBehindAlterClientQuotasResponseSpec)

/-- 'laws.FnBehindJoinGroupRequest', WHERE WHAT IT READS IS OF BULK AT MOST 1048576: true; the input reads as it did. -/
def fnBehindJoinGroupRequestUptoRow : OpenClaim := { program := "ytgblofcjkgbojaagreatdoor", sum := "9bb7aa671e32abafabad0e849d4df8d87cc31198ba58f18cb198ee9297e091d2", func := "pub-mailsack/laws.FnBehindJoinGroupRequest", spec := "fnBehindJoinGroupRequest", inPlace := ["internal/reflectlite.ValueOf", "internal/reflectlite.Swapper", "(internal/reflectlite.Value).Len"], unfollowed := true, recurses := true, named := ["encoding/binary.BigEndian", "pub-mailsack/pub/kmsg/inner/kbin.ErrNotEnoughData"], loops := true, apart := false, laid := [("pub-mailsack/pub/kmsg/inner/kbin.ErrNotEnoughData", laid_pub_mailsack_pub_kmsg_inner_kbin_ErrNotEnoughData)], narrowed := true }
def FnBehindJoinGroupRequestUptoSaid : Prop := fnBehindJoinGroupRequestUptoRow.holds Tryz.pinned (OpenSpec.upto fnBehindJoinGroupRequestSpec)

/-- 'laws.FnBehindDescribeLogDirsResponse', WHERE WHAT IT READS IS OF BULK AT MOST 1048576: true; the input reads as it did. -/
def fnBehindDescribeLogDirsResponseUptoRow : OpenClaim := { program := "ytgblofcjkgbojaagreatdoor", sum := "9bb7aa671e32abafabad0e849d4df8d87cc31198ba58f18cb198ee9297e091d2", func := "pub-mailsack/laws.FnBehindDescribeLogDirsResponse", spec := "fnBehindDescribeLogDirsResponse", inPlace := ["internal/reflectlite.ValueOf", "internal/reflectlite.Swapper", "(internal/reflectlite.Value).Len"], unfollowed := true, recurses := true, named := ["encoding/binary.BigEndian", "pub-mailsack/pub/kmsg/inner/kbin.ErrNotEnoughData"], loops := true, apart := false, laid := [("pub-mailsack/pub/kmsg/inner/kbin.ErrNotEnoughData", laid_pub_mailsack_pub_kmsg_inner_kbin_ErrNotEnoughData)], narrowed := true }
def FnBehindDescribeLogDirsResponseUptoSaid : Prop := fnBehindDescribeLogDirsResponseUptoRow.holds Tryz.pinned (OpenSpec.upto fnBehindDescribeLogDirsResponseSpec)

/-- 'laws.FnBehindDescribeACLsResponse', WHERE WHAT IT READS IS OF BULK AT MOST 1048576: true; the input reads as it did. -/
def fnBehindDescribeACLsResponseUptoRow : OpenClaim := { program := "ytgblofcjkgbojaagreatdoor", sum := "9bb7aa671e32abafabad0e849d4df8d87cc31198ba58f18cb198ee9297e091d2", func := "pub-mailsack/laws.FnBehindDescribeACLsResponse", spec := "fnBehindDescribeACLsResponse", inPlace := ["internal/reflectlite.ValueOf", "internal/reflectlite.Swapper", "(internal/reflectlite.Value).Len"], unfollowed := true, recurses := true, named := ["encoding/binary.BigEndian", "pub-mailsack/pub/kmsg/inner/kbin.ErrNotEnoughData"], loops := true, apart := false, laid := [("pub-mailsack/pub/kmsg/inner/kbin.ErrNotEnoughData", laid_pub_mailsack_pub_kmsg_inner_kbin_ErrNotEnoughData)], narrowed := true }
def FnBehindDescribeACLsResponseUptoSaid : Prop := fnBehindDescribeACLsResponseUptoRow.holds Tryz.pinned (OpenSpec.upto fnBehindDescribeACLsResponseSpec)

/-- 'laws.FnBehindOffsetFetchResponse', WHERE WHAT IT READS IS OF BULK AT MOST 1048576: true; the input reads as it did. -/
def fnBehindOffsetFetchResponseUptoRow : OpenClaim := { program := "ytgblofcjkgbojaagreatdoor", sum := "9bb7aa671e32abafabad0e849d4df8d87cc31198ba58f18cb198ee9297e091d2", func := "pub-mailsack/laws.FnBehindOffsetFetchResponse", spec := "fnBehindOffsetFetchResponse", inPlace := ["internal/reflectlite.ValueOf", "internal/reflectlite.Swapper", "(internal/reflectlite.Value).Len"], unfollowed := true, recurses := true, named := ["encoding/binary.BigEndian", "pub-mailsack/pub/kmsg/inner/kbin.ErrNotEnoughData"], loops := true, apart := false, laid := [("pub-mailsack/pub/kmsg/inner/kbin.ErrNotEnoughData", laid_pub_mailsack_pub_kmsg_inner_kbin_ErrNotEnoughData)], narrowed := true }
def FnBehindOffsetFetchResponseUptoSaid : Prop := fnBehindOffsetFetchResponseUptoRow.holds Tryz.pinned (OpenSpec.upto fnBehindOffsetFetchResponseSpec)

end Rows
end Go.Proofs.YtgblofcjkgbojaaGreatDoor
