/-
  NARROWER THAN 'FOR EVERY INPUT', by the rows' own cells (each row's printed sentence says how): FnFrameDescribeTransactionsRequest: loops, laid · FnFrameDescribeQuorumRequest: loops, laid · FnFrameDeleteRecordsRequest: loops, laid · FnFrameDeleteTopicsRequest: loops, laid · FnFrameStopReplicaRequest: loops, laid · FnFrameIncrementalAlterConfigsRequest: loops, laid · FnFrameCreateTopicsRequest: loops, laid.
  DERIVED. THE GIVEN ROWS OF THIS SEAT. 7 by the template 'for every input the law returns true; each argument reads behind the call as it read before'; 0 by the template 'total and deterministic' (their statements: YtichlhnmbdhkjaaGreatDoorTotals.lean).
  GIVEN WITH THE SEED: the statements are not yours to turn. If you find one false, say at which input.
  Laid BY PROGRAM, IN A SANDBOX (cutbox-rows.mjs): the forced cells as the released guide's own fill.sh prints them over the translation ec824c6be57e8f98… (all of the seat's roots in one cut). By AI agents, Wed Nov 11 2026. No macro, syntax, notation, axiom, sorry.
-/
import Derived.Test.YtichlhnmbdhkjaaGreatDoorChecked
import GoSem.Claim
import GoSem.ClaimJoined
import GoSem.ClaimMapViews
import Derived.JoinedTies
import Derived.KernelRfl
namespace Go.Proofs.YtichlhnmbdhkjaaGreatDoor
/- THE CELL 'sum', in the pinned program and in every row, IS THE sha256 OF THE DUMP (.gsa) THAT YtichlhnmbdhkjaaGreatDoorProg.lean LOADS. Nothing in Lean hashes anything: it is a label: what it is worth is what the hold of that sum in a sandbox is worth. -/
noncomputable def Tryz.pinned : Pinned := { name := "ytichlhnmbdhkjaagreatdoor", sum := "ec824c6be57e8f98724512d38fa162b59c5378953e36486d9de4ad513def1917", checked := Tryz.checked }
namespace Rows
def none {H : Type} : Left H := { results := [], args := [] }

/- WHAT THE LISTED PACKAGE-LEVEL VARIABLES READ AS WHEN THE CALL BEGINS. Each datum BY PROGRAM (the guide's laid-datum.mjs) off the statement by which the dump's own 'gosem.cut.vars' lays the variable. In a bare row this is a premise. The card (YtichlhnmbdhkjaaGreatDoorCards.lean) ties it to the program's text. -/
def laid_pub_mailsack_pub_kmsg_inner_kbin_ErrNotEnoughData {H : Type} : DataW H := .iface "*errors.errorString" (.ptr (.agg [.lit (.string [114, 101, 115, 112, 111, 110, 115, 101, 32, 100, 105, 100, 32, 110, 111, 116, 32, 99, 111, 110, 116, 97, 105, 110, 32, 101, 110, 111, 117, 103, 104, 32, 100, 97, 116, 97, 32, 116, 111, 32, 98, 101, 32, 118, 97, 108, 105, 100])]))

/-- 'laws.FnFrameDescribeTransactionsRequest': WHATEVER THE INPUT: true; the input reads as it did. -/
def fnFrameDescribeTransactionsRequestSpec : ChangeSpec := { name := "fnFrameDescribeTransactionsRequest", fn := fun _ => fun
  | [d1, d2, d3, d4] => { results := [.lit (.bool true)], args := [d1, d2, d3, d4] }
  | _ => none }
def fnFrameDescribeTransactionsRequestRow : OpenClaim := { program := "ytichlhnmbdhkjaagreatdoor", sum := "ec824c6be57e8f98724512d38fa162b59c5378953e36486d9de4ad513def1917", func := "pub-mailsack/laws.FnFrameDescribeTransactionsRequest", spec := "fnFrameDescribeTransactionsRequest", unfollowed := true, recurses := true, named := ["encoding/binary.BigEndian", "pub-mailsack/pub/kmsg/inner/kbin.ErrNotEnoughData"], loops := true, apart := false, laid := [("pub-mailsack/pub/kmsg/inner/kbin.ErrNotEnoughData", laid_pub_mailsack_pub_kmsg_inner_kbin_ErrNotEnoughData)] }
def FnFrameDescribeTransactionsRequestSaid : Prop := fnFrameDescribeTransactionsRequestRow.holds Tryz.pinned (OpenSpec.ofChange fnFrameDescribeTransactionsRequestSpec)

/-- ITS FALSE NEIGHBOUR: 'it returns false'. Refute it at one input. -/
def fnFrameDescribeTransactionsRequestWrong : ChangeSpec := { name := "fnFrameDescribeTransactionsRequest", fn := fun _ => fun
  | [d1, d2, d3, d4] => { results := [.lit (.bool false)], args := [d1, d2, d3, d4] }
  | _ => none }
def FnFrameDescribeTransactionsRequestWrongFalsely : Prop := fnFrameDescribeTransactionsRequestRow.holds Tryz.pinned (OpenSpec.ofChange fnFrameDescribeTransactionsRequestWrong)

/-- 'laws.FnFrameDescribeQuorumRequest': WHATEVER THE INPUT: true; the input reads as it did. -/
def fnFrameDescribeQuorumRequestSpec : ChangeSpec := { name := "fnFrameDescribeQuorumRequest", fn := fun _ => fun
  | [d1, d2, d3, d4] => { results := [.lit (.bool true)], args := [d1, d2, d3, d4] }
  | _ => none }
def fnFrameDescribeQuorumRequestRow : OpenClaim := { program := "ytichlhnmbdhkjaagreatdoor", sum := "ec824c6be57e8f98724512d38fa162b59c5378953e36486d9de4ad513def1917", func := "pub-mailsack/laws.FnFrameDescribeQuorumRequest", spec := "fnFrameDescribeQuorumRequest", unfollowed := true, recurses := true, named := ["encoding/binary.BigEndian", "pub-mailsack/pub/kmsg/inner/kbin.ErrNotEnoughData"], loops := true, apart := false, laid := [("pub-mailsack/pub/kmsg/inner/kbin.ErrNotEnoughData", laid_pub_mailsack_pub_kmsg_inner_kbin_ErrNotEnoughData)] }
def FnFrameDescribeQuorumRequestSaid : Prop := fnFrameDescribeQuorumRequestRow.holds Tryz.pinned (OpenSpec.ofChange fnFrameDescribeQuorumRequestSpec)

/-- ITS FALSE NEIGHBOUR: 'it returns false'. Refute it at one input. -/
def fnFrameDescribeQuorumRequestWrong : ChangeSpec := { name := "fnFrameDescribeQuorumRequest", fn := fun _ => fun
  | [d1, d2, d3, d4] => { results := [.lit (.bool false)], args := [d1, d2, d3, d4] }
  | _ => none }
def FnFrameDescribeQuorumRequestWrongFalsely : Prop := fnFrameDescribeQuorumRequestRow.holds Tryz.pinned (OpenSpec.ofChange fnFrameDescribeQuorumRequestWrong)

/-- 'laws.FnFrameDeleteRecordsRequest': WHATEVER THE INPUT: true; the input reads as it did. -/
def fnFrameDeleteRecordsRequestSpec : ChangeSpec := { name := "fnFrameDeleteRecordsRequest", fn := fun _ => fun
  | [d1, d2, d3, d4] => { results := [.lit (.bool true)], args := [d1, d2, d3, d4] }
  | _ => none }
def fnFrameDeleteRecordsRequestRow : OpenClaim := { program := "ytichlhnmbdhkjaagreatdoor", sum := "ec824c6be57e8f98724512d38fa162b59c5378953e36486d9de4ad513def1917", func := "pub-mailsack/laws.FnFrameDeleteRecordsRequest", spec := "fnFrameDeleteRecordsRequest", unfollowed := true, recurses := true, named := ["encoding/binary.BigEndian", "pub-mailsack/pub/kmsg/inner/kbin.ErrNotEnoughData"], loops := true, apart := false, laid := [("pub-mailsack/pub/kmsg/inner/kbin.ErrNotEnoughData", laid_pub_mailsack_pub_kmsg_inner_kbin_ErrNotEnoughData)] }
def FnFrameDeleteRecordsRequestSaid : Prop := fnFrameDeleteRecordsRequestRow.holds Tryz.pinned (OpenSpec.ofChange fnFrameDeleteRecordsRequestSpec)

/-- ITS FALSE NEIGHBOUR: 'it returns false'. Refute it at one input. -/
def fnFrameDeleteRecordsRequestWrong : ChangeSpec := { name := "fnFrameDeleteRecordsRequest", fn := fun _ => fun
  | [d1, d2, d3, d4] => { results := [.lit (.bool false)], args := [d1, d2, d3, d4] }
  | _ => none }
def FnFrameDeleteRecordsRequestWrongFalsely : Prop := fnFrameDeleteRecordsRequestRow.holds Tryz.pinned (OpenSpec.ofChange fnFrameDeleteRecordsRequestWrong)

/-- 'laws.FnFrameDeleteTopicsRequest': WHATEVER THE INPUT: true; the input reads as it did. -/
def fnFrameDeleteTopicsRequestSpec : ChangeSpec := { name := "fnFrameDeleteTopicsRequest", fn := fun _ => fun
  | [d1, d2, d3, d4] => { results := [.lit (.bool true)], args := [d1, d2, d3, d4] }
  | _ => none }
def fnFrameDeleteTopicsRequestRow : OpenClaim := { program := "ytichlhnmbdhkjaagreatdoor", sum := "ec824c6be57e8f98724512d38fa162b59c5378953e36486d9de4ad513def1917", func := "pub-mailsack/laws.FnFrameDeleteTopicsRequest", spec := "fnFrameDeleteTopicsRequest", unfollowed := true, recurses := true, named := ["encoding/binary.BigEndian", "pub-mailsack/pub/kmsg/inner/kbin.ErrNotEnoughData"], loops := true, apart := false, laid := [("pub-mailsack/pub/kmsg/inner/kbin.ErrNotEnoughData", laid_pub_mailsack_pub_kmsg_inner_kbin_ErrNotEnoughData)] }
def FnFrameDeleteTopicsRequestSaid : Prop := fnFrameDeleteTopicsRequestRow.holds Tryz.pinned (OpenSpec.ofChange fnFrameDeleteTopicsRequestSpec)

/-- ITS FALSE NEIGHBOUR: 'it returns false'. Refute it at one input. -/
def fnFrameDeleteTopicsRequestWrong : ChangeSpec := { name := "fnFrameDeleteTopicsRequest", fn := fun _ => fun
  | [d1, d2, d3, d4] => { results := [.lit (.bool false)], args := [d1, d2, d3, d4] }
  | _ => none }
def FnFrameDeleteTopicsRequestWrongFalsely : Prop := fnFrameDeleteTopicsRequestRow.holds Tryz.pinned (OpenSpec.ofChange fnFrameDeleteTopicsRequestWrong)

/-- 'laws.FnFrameStopReplicaRequest': WHATEVER THE INPUT: true; the input reads as it did. -/
def fnFrameStopReplicaRequestSpec : ChangeSpec := { name := "fnFrameStopReplicaRequest", fn := fun _ => fun
  | [d1, d2, d3, d4] => { results := [.lit (.bool true)], args := [d1, d2, d3, d4] }
  | _ => none }
def fnFrameStopReplicaRequestRow : OpenClaim := { program := "ytichlhnmbdhkjaagreatdoor", sum := "ec824c6be57e8f98724512d38fa162b59c5378953e36486d9de4ad513def1917", func := "pub-mailsack/laws.FnFrameStopReplicaRequest", spec := "fnFrameStopReplicaRequest", unfollowed := true, recurses := true, named := ["encoding/binary.BigEndian", "pub-mailsack/pub/kmsg/inner/kbin.ErrNotEnoughData"], loops := true, apart := false, laid := [("pub-mailsack/pub/kmsg/inner/kbin.ErrNotEnoughData", laid_pub_mailsack_pub_kmsg_inner_kbin_ErrNotEnoughData)] }
def FnFrameStopReplicaRequestSaid : Prop := fnFrameStopReplicaRequestRow.holds Tryz.pinned (OpenSpec.ofChange fnFrameStopReplicaRequestSpec)

/-- ITS FALSE NEIGHBOUR: 'it returns false'. Refute it at one input. -/
def fnFrameStopReplicaRequestWrong : ChangeSpec := { name := "fnFrameStopReplicaRequest", fn := fun _ => fun
  | [d1, d2, d3, d4] => { results := [.lit (.bool false)], args := [d1, d2, d3, d4] }
  | _ => none }
def FnFrameStopReplicaRequestWrongFalsely : Prop := fnFrameStopReplicaRequestRow.holds Tryz.pinned (OpenSpec.ofChange fnFrameStopReplicaRequestWrong)

/-- 'laws.FnFrameIncrementalAlterConfigsRequest': WHATEVER THE INPUT: true; the input reads as it did. -/
def fnFrameIncrementalAlterConfigsRequestSpec : ChangeSpec := { name := "fnFrameIncrementalAlterConfigsRequest", fn := fun _ => fun
  | [d1, d2, d3, d4] => { results := [.lit (.bool true)], args := [d1, d2, d3, d4] }
  | _ => none }
def fnFrameIncrementalAlterConfigsRequestRow : OpenClaim := { program := "ytichlhnmbdhkjaagreatdoor", sum := "ec824c6be57e8f98724512d38fa162b59c5378953e36486d9de4ad513def1917", func := "pub-mailsack/laws.FnFrameIncrementalAlterConfigsRequest", spec := "fnFrameIncrementalAlterConfigsRequest", unfollowed := true, recurses := true, named := ["encoding/binary.BigEndian", "pub-mailsack/pub/kmsg/inner/kbin.ErrNotEnoughData"], loops := true, apart := false, laid := [("pub-mailsack/pub/kmsg/inner/kbin.ErrNotEnoughData", laid_pub_mailsack_pub_kmsg_inner_kbin_ErrNotEnoughData)] }
def FnFrameIncrementalAlterConfigsRequestSaid : Prop := fnFrameIncrementalAlterConfigsRequestRow.holds Tryz.pinned (OpenSpec.ofChange fnFrameIncrementalAlterConfigsRequestSpec)

/-- ITS FALSE NEIGHBOUR: 'it returns false'. Refute it at one input. -/
def fnFrameIncrementalAlterConfigsRequestWrong : ChangeSpec := { name := "fnFrameIncrementalAlterConfigsRequest", fn := fun _ => fun
  | [d1, d2, d3, d4] => { results := [.lit (.bool false)], args := [d1, d2, d3, d4] }
  | _ => none }
def FnFrameIncrementalAlterConfigsRequestWrongFalsely : Prop := fnFrameIncrementalAlterConfigsRequestRow.holds Tryz.pinned (OpenSpec.ofChange fnFrameIncrementalAlterConfigsRequestWrong)

/-- 'laws.FnFrameCreateTopicsRequest': WHATEVER THE INPUT: true; the input reads as it did. -/
def fnFrameCreateTopicsRequestSpec : ChangeSpec := { name := "fnFrameCreateTopicsRequest", fn := fun _ => fun
  | [d1, d2, d3, d4] => { results := [.lit (.bool true)], args := [d1, d2, d3, d4] }
  | _ => none }
def fnFrameCreateTopicsRequestRow : OpenClaim := { program := "ytichlhnmbdhkjaagreatdoor", sum := "ec824c6be57e8f98724512d38fa162b59c5378953e36486d9de4ad513def1917", func := "pub-mailsack/laws.FnFrameCreateTopicsRequest", spec := "fnFrameCreateTopicsRequest", unfollowed := true, recurses := true, named := ["encoding/binary.BigEndian", "pub-mailsack/pub/kmsg/inner/kbin.ErrNotEnoughData"], loops := true, apart := false, laid := [("pub-mailsack/pub/kmsg/inner/kbin.ErrNotEnoughData", laid_pub_mailsack_pub_kmsg_inner_kbin_ErrNotEnoughData)] }
def FnFrameCreateTopicsRequestSaid : Prop := fnFrameCreateTopicsRequestRow.holds Tryz.pinned (OpenSpec.ofChange fnFrameCreateTopicsRequestSpec)

/-- ITS FALSE NEIGHBOUR: 'it returns false'. Refute it at one input. -/
def fnFrameCreateTopicsRequestWrong : ChangeSpec := { name := "fnFrameCreateTopicsRequest", fn := fun _ => fun
  | [d1, d2, d3, d4] => { results := [.lit (.bool false)], args := [d1, d2, d3, d4] }
  | _ => none }
def FnFrameCreateTopicsRequestWrongFalsely : Prop := fnFrameCreateTopicsRequestRow.holds Tryz.pinned (OpenSpec.ofChange fnFrameCreateTopicsRequestWrong)

/- THE SECOND FORM. 'bulk': how many values and letters a reading holds, each counted each time it is reached (what is shared counts as often as it is met; a slice's spare places count too). A statement '..UptoSaid' is the law's where the arguments, and the package variables that the reading takes, are together of bulk at most 1048576: NARROWER than '..Said'. Prove '..Said' where nothing that the law and all that it calls make is longer than what came in: it says more and counts as full. Else prove '..UptoSaid'. A law counts once. -/
mutual
def uptoBulk {H : Type} : DataW H → Nat
  | .lit (.string bytes) => bytes.length + 1
  | .lit _ => 1
  | .nil => 1
  | .ptr d => uptoBulk d + 1
  | .slice elems spare => uptoBulkAll elems + uptoBulkAll spare + 1
  | .agg parts => uptoBulkAll parts + 1
  | .iface _ d => uptoBulk d + 1
  | .map entries => uptoBulkEntries entries + 1
  | .held _ => 1
def uptoBulkAll {H : Type} : List (DataW H) → Nat
  | [] => 0
  | d :: r => uptoBulk d + uptoBulkAll r
def uptoBulkEntries {H : Type} : List (Lit × DataW H) → Nat
  | [] => 0
  | x :: r => uptoBulkEntry x + uptoBulkEntries r
def uptoBulkEntry {H : Type} : Lit × DataW H → Nat
  | (.string bytes, d) => bytes.length + uptoBulk d + 1
  | (_, d) => uptoBulk d + 1
 end
def uptoSmall : (H : Type) → List (DataW H) → Bool := fun _ ds => decide (uptoBulkAll ds ≤ 1048576)
def OpenSpec.upto (s : _root_.Go.ChangeSpec) : _root_.Go.OpenSpec := { _root_.Go.OpenSpec.ofChange s with cond := some uptoSmall }

/-- 'laws.FnFrameDescribeTransactionsRequest', WHERE WHAT IT READS IS OF BULK AT MOST 1048576: true; the input reads as it did. -/
def fnFrameDescribeTransactionsRequestUptoRow : OpenClaim := { program := "ytichlhnmbdhkjaagreatdoor", sum := "ec824c6be57e8f98724512d38fa162b59c5378953e36486d9de4ad513def1917", func := "pub-mailsack/laws.FnFrameDescribeTransactionsRequest", spec := "fnFrameDescribeTransactionsRequest", unfollowed := true, recurses := true, named := ["encoding/binary.BigEndian", "pub-mailsack/pub/kmsg/inner/kbin.ErrNotEnoughData"], loops := true, apart := false, laid := [("pub-mailsack/pub/kmsg/inner/kbin.ErrNotEnoughData", laid_pub_mailsack_pub_kmsg_inner_kbin_ErrNotEnoughData)], narrowed := true }
def FnFrameDescribeTransactionsRequestUptoSaid : Prop := fnFrameDescribeTransactionsRequestUptoRow.holds Tryz.pinned (OpenSpec.upto fnFrameDescribeTransactionsRequestSpec)

/-- 'laws.FnFrameDescribeQuorumRequest', WHERE WHAT IT READS IS OF BULK AT MOST 1048576: true; the input reads as it did. -/
def fnFrameDescribeQuorumRequestUptoRow : OpenClaim := { program := "ytichlhnmbdhkjaagreatdoor", sum := "ec824c6be57e8f98724512d38fa162b59c5378953e36486d9de4ad513def1917", func := "pub-mailsack/laws.FnFrameDescribeQuorumRequest", spec := "fnFrameDescribeQuorumRequest", unfollowed := true, recurses := true, named := ["encoding/binary.BigEndian", "pub-mailsack/pub/kmsg/inner/kbin.ErrNotEnoughData"], loops := true, apart := false, laid := [("pub-mailsack/pub/kmsg/inner/kbin.ErrNotEnoughData", laid_pub_mailsack_pub_kmsg_inner_kbin_ErrNotEnoughData)], narrowed := true }
def FnFrameDescribeQuorumRequestUptoSaid : Prop := fnFrameDescribeQuorumRequestUptoRow.holds Tryz.pinned (OpenSpec.upto fnFrameDescribeQuorumRequestSpec)

/-- 'laws.FnFrameDeleteRecordsRequest', WHERE WHAT IT READS IS OF BULK AT MOST 1048576: true; the input reads as it did. -/
def fnFrameDeleteRecordsRequestUptoRow : OpenClaim := { program := "ytichlhnmbdhkjaagreatdoor", sum := "ec824c6be57e8f98724512d38fa162b59c5378953e36486d9de4ad513def1917", func := "pub-mailsack/laws.FnFrameDeleteRecordsRequest", spec := "fnFrameDeleteRecordsRequest", unfollowed := true, recurses := true, named := ["encoding/binary.BigEndian", "pub-mailsack/pub/kmsg/inner/kbin.ErrNotEnoughData"], loops := true, apart := false, laid := [("pub-mailsack/pub/kmsg/inner/kbin.ErrNotEnoughData", laid_pub_mailsack_pub_kmsg_inner_kbin_ErrNotEnoughData)], narrowed := true }
def FnFrameDeleteRecordsRequestUptoSaid : Prop := fnFrameDeleteRecordsRequestUptoRow.holds Tryz.pinned (OpenSpec.upto fnFrameDeleteRecordsRequestSpec)

/-- 'laws.FnFrameDeleteTopicsRequest', WHERE WHAT IT READS IS OF BULK AT MOST 1048576: true; the input reads as it did. -/
def fnFrameDeleteTopicsRequestUptoRow : OpenClaim := { program := "ytichlhnmbdhkjaagreatdoor", sum := "ec824c6be57e8f98724512d38fa162b59c5378953e36486d9de4ad513def1917", func := "pub-mailsack/laws.FnFrameDeleteTopicsRequest", spec := "fnFrameDeleteTopicsRequest", unfollowed := true, recurses := true, named := ["encoding/binary.BigEndian", "pub-mailsack/pub/kmsg/inner/kbin.ErrNotEnoughData"], loops := true, apart := false, laid := [("pub-mailsack/pub/kmsg/inner/kbin.ErrNotEnoughData", laid_pub_mailsack_pub_kmsg_inner_kbin_ErrNotEnoughData)], narrowed := true }
def FnFrameDeleteTopicsRequestUptoSaid : Prop := fnFrameDeleteTopicsRequestUptoRow.holds Tryz.pinned (OpenSpec.upto fnFrameDeleteTopicsRequestSpec)

/-- 'laws.FnFrameStopReplicaRequest', WHERE WHAT IT READS IS OF BULK AT MOST 1048576: true; the input reads as it did. -/
def fnFrameStopReplicaRequestUptoRow : OpenClaim := { program := "ytichlhnmbdhkjaagreatdoor", sum := "ec824c6be57e8f98724512d38fa162b59c5378953e36486d9de4ad513def1917", func := "pub-mailsack/laws.FnFrameStopReplicaRequest", spec := "fnFrameStopReplicaRequest", unfollowed := true, recurses := true, named := ["encoding/binary.BigEndian", "pub-mailsack/pub/kmsg/inner/kbin.ErrNotEnoughData"], loops := true, apart := false, laid := [("pub-mailsack/pub/kmsg/inner/kbin.ErrNotEnoughData", laid_pub_mailsack_pub_kmsg_inner_kbin_ErrNotEnoughData)], narrowed := true }
def FnFrameStopReplicaRequestUptoSaid : Prop := fnFrameStopReplicaRequestUptoRow.holds Tryz.pinned (OpenSpec.upto fnFrameStopReplicaRequestSpec)

/-- 'laws.FnFrameIncrementalAlterConfigsRequest', WHERE WHAT IT READS IS OF BULK AT MOST 1048576: true; the input reads as it did. -/
def fnFrameIncrementalAlterConfigsRequestUptoRow : OpenClaim := { program := "ytichlhnmbdhkjaagreatdoor", sum := "ec824c6be57e8f98724512d38fa162b59c5378953e36486d9de4ad513def1917", func := "pub-mailsack/laws.FnFrameIncrementalAlterConfigsRequest", spec := "fnFrameIncrementalAlterConfigsRequest", unfollowed := true, recurses := true, named := ["encoding/binary.BigEndian", "pub-mailsack/pub/kmsg/inner/kbin.ErrNotEnoughData"], loops := true, apart := false, laid := [("pub-mailsack/pub/kmsg/inner/kbin.ErrNotEnoughData", laid_pub_mailsack_pub_kmsg_inner_kbin_ErrNotEnoughData)], narrowed := true }
def FnFrameIncrementalAlterConfigsRequestUptoSaid : Prop := fnFrameIncrementalAlterConfigsRequestUptoRow.holds Tryz.pinned (OpenSpec.upto fnFrameIncrementalAlterConfigsRequestSpec)

/-- 'laws.FnFrameCreateTopicsRequest', WHERE WHAT IT READS IS OF BULK AT MOST 1048576: true; the input reads as it did. -/
def fnFrameCreateTopicsRequestUptoRow : OpenClaim := { program := "ytichlhnmbdhkjaagreatdoor", sum := "ec824c6be57e8f98724512d38fa162b59c5378953e36486d9de4ad513def1917", func := "pub-mailsack/laws.FnFrameCreateTopicsRequest", spec := "fnFrameCreateTopicsRequest", unfollowed := true, recurses := true, named := ["encoding/binary.BigEndian", "pub-mailsack/pub/kmsg/inner/kbin.ErrNotEnoughData"], loops := true, apart := false, laid := [("pub-mailsack/pub/kmsg/inner/kbin.ErrNotEnoughData", laid_pub_mailsack_pub_kmsg_inner_kbin_ErrNotEnoughData)], narrowed := true }
def FnFrameCreateTopicsRequestUptoSaid : Prop := fnFrameCreateTopicsRequestUptoRow.holds Tryz.pinned (OpenSpec.upto fnFrameCreateTopicsRequestSpec)

end Rows
end Go.Proofs.YtichlhnmbdhkjaaGreatDoor
