/-
  NARROWER THAN 'FOR EVERY INPUT', by the rows' own cells (each row's printed sentence says how): FnTellListConfigResourcesRequest: loops, laid · FnTellConsumerGroupDescribeRequest: loops, laid · FnDefaultDescribeClusterRequest: loops, laid · FnDefaultAllocateProducerIDsRequest: loops, laid · FnDefaultEndTxnResponse: loops, laid.
  DERIVED. THE GIVEN ROWS OF THIS SEAT. 5 by the template 'for every input the law returns true; each argument reads behind the call as it read before'; 0 by the template 'total and deterministic' (their statements: YtjfgalpjjnncaaaDoorTotals.lean).
  GIVEN WITH THE SEED: the statements are not yours to turn. If you find one false, say at which input.
  Laid BY PROGRAM, IN A SANDBOX (cutbox-rows.mjs): the forced cells as the released guide's own fill.sh prints them over the translation b00d20f285049a06… (all of the seat's roots in one cut). By AI agents, Wed Nov 11 2026. No macro, syntax, notation, axiom, sorry.
-/
import Derived.Test.YtjfgalpjjnncaaaDoorChecked
import GoSem.Claim
import GoSem.ClaimJoined
import GoSem.ClaimMapViews
import Derived.JoinedTies
import Derived.KernelRfl
namespace Go.Proofs.YtjfgalpjjnncaaaDoor
/- THE CELL 'sum', in the pinned program and in every row, IS THE sha256 OF THE DUMP (.gsa) THAT YtjfgalpjjnncaaaDoorProg.lean LOADS. Nothing in Lean hashes anything: it is a label: what it is worth is what the hold of that sum in a sandbox is worth. -/
noncomputable def Tryd.pinned : Pinned := { name := "ytjfgalpjjnncaaadoor", sum := "b00d20f285049a066b46fc3f61b72a99f7b5ca5a3976310abecedb94a7a25505", checked := Tryd.checked }
namespace Rows
def none {H : Type} : Left H := { results := [], args := [] }

/- WHAT THE LISTED PACKAGE-LEVEL VARIABLES READ AS WHEN THE CALL BEGINS. Each datum BY PROGRAM (the guide's laid-datum.mjs) off the statement by which the dump's own 'gosem.cut.vars' lays the variable. In a bare row this is a premise. The card (YtjfgalpjjnncaaaDoorCards.lean) ties it to the program's text. -/
def laid_pub_mailsack_pub_kmsg_inner_kbin_ErrNotEnoughData {H : Type} : DataW H := .iface "*errors.errorString" (.ptr (.agg [.lit (.string [114, 101, 115, 112, 111, 110, 115, 101, 32, 100, 105, 100, 32, 110, 111, 116, 32, 99, 111, 110, 116, 97, 105, 110, 32, 101, 110, 111, 117, 103, 104, 32, 100, 97, 116, 97, 32, 116, 111, 32, 98, 101, 32, 118, 97, 108, 105, 100])]))

/-- 'laws.FnTellListConfigResourcesRequest': WHATEVER THE INPUT: true; the input reads as it did. -/
def fnTellListConfigResourcesRequestSpec : ChangeSpec := { name := "fnTellListConfigResourcesRequest", fn := fun _ => fun
  | [d1, d2] => { results := [.lit (.bool true)], args := [d1, d2] }
  | _ => none }
def fnTellListConfigResourcesRequestRow : OpenClaim := { program := "ytjfgalpjjnncaaadoor", sum := "b00d20f285049a066b46fc3f61b72a99f7b5ca5a3976310abecedb94a7a25505", func := "pub-mailsack/laws.FnTellListConfigResourcesRequest", spec := "fnTellListConfigResourcesRequest", inPlace := ["internal/reflectlite.ValueOf", "internal/reflectlite.Swapper", "(internal/reflectlite.Value).Len"], unfollowed := true, recurses := true, named := ["encoding/binary.BigEndian", "pub-mailsack/pub/kmsg/inner/kbin.ErrNotEnoughData"], loops := true, apart := false, laid := [("pub-mailsack/pub/kmsg/inner/kbin.ErrNotEnoughData", laid_pub_mailsack_pub_kmsg_inner_kbin_ErrNotEnoughData)] }
def FnTellListConfigResourcesRequestSaid : Prop := fnTellListConfigResourcesRequestRow.holds Tryd.pinned (OpenSpec.ofChange fnTellListConfigResourcesRequestSpec)

/-- ITS FALSE NEIGHBOUR: 'it returns false'. Refute it at one input. -/
def fnTellListConfigResourcesRequestWrong : ChangeSpec := { name := "fnTellListConfigResourcesRequest", fn := fun _ => fun
  | [d1, d2] => { results := [.lit (.bool false)], args := [d1, d2] }
  | _ => none }
def FnTellListConfigResourcesRequestWrongFalsely : Prop := fnTellListConfigResourcesRequestRow.holds Tryd.pinned (OpenSpec.ofChange fnTellListConfigResourcesRequestWrong)

/-- 'laws.FnTellConsumerGroupDescribeRequest': WHATEVER THE INPUT: true; the input reads as it did. -/
def fnTellConsumerGroupDescribeRequestSpec : ChangeSpec := { name := "fnTellConsumerGroupDescribeRequest", fn := fun _ => fun
  | [d1, d2] => { results := [.lit (.bool true)], args := [d1, d2] }
  | _ => none }
def fnTellConsumerGroupDescribeRequestRow : OpenClaim := { program := "ytjfgalpjjnncaaadoor", sum := "b00d20f285049a066b46fc3f61b72a99f7b5ca5a3976310abecedb94a7a25505", func := "pub-mailsack/laws.FnTellConsumerGroupDescribeRequest", spec := "fnTellConsumerGroupDescribeRequest", inPlace := ["internal/reflectlite.ValueOf", "internal/reflectlite.Swapper", "(internal/reflectlite.Value).Len"], unfollowed := true, recurses := true, named := ["encoding/binary.BigEndian", "pub-mailsack/pub/kmsg/inner/kbin.ErrNotEnoughData"], loops := true, apart := false, laid := [("pub-mailsack/pub/kmsg/inner/kbin.ErrNotEnoughData", laid_pub_mailsack_pub_kmsg_inner_kbin_ErrNotEnoughData)] }
def FnTellConsumerGroupDescribeRequestSaid : Prop := fnTellConsumerGroupDescribeRequestRow.holds Tryd.pinned (OpenSpec.ofChange fnTellConsumerGroupDescribeRequestSpec)

/-- ITS FALSE NEIGHBOUR: 'it returns false'. Refute it at one input. -/
def fnTellConsumerGroupDescribeRequestWrong : ChangeSpec := { name := "fnTellConsumerGroupDescribeRequest", fn := fun _ => fun
  | [d1, d2] => { results := [.lit (.bool false)], args := [d1, d2] }
  | _ => none }
def FnTellConsumerGroupDescribeRequestWrongFalsely : Prop := fnTellConsumerGroupDescribeRequestRow.holds Tryd.pinned (OpenSpec.ofChange fnTellConsumerGroupDescribeRequestWrong)

/-- 'laws.FnDefaultDescribeClusterRequest': WHATEVER THE INPUT: true; the input reads as it did. -/
def fnDefaultDescribeClusterRequestSpec : ChangeSpec := { name := "fnDefaultDescribeClusterRequest", fn := fun _ => fun
  | [d1, d2] => { results := [.lit (.bool true)], args := [d1, d2] }
  | _ => none }
def fnDefaultDescribeClusterRequestRow : OpenClaim := { program := "ytjfgalpjjnncaaadoor", sum := "b00d20f285049a066b46fc3f61b72a99f7b5ca5a3976310abecedb94a7a25505", func := "pub-mailsack/laws.FnDefaultDescribeClusterRequest", spec := "fnDefaultDescribeClusterRequest", inPlace := ["internal/reflectlite.ValueOf", "internal/reflectlite.Swapper", "(internal/reflectlite.Value).Len"], unfollowed := true, recurses := true, named := ["pub-mailsack/pub/kmsg/inner/kbin.ErrNotEnoughData"], loops := true, apart := false, laid := [("pub-mailsack/pub/kmsg/inner/kbin.ErrNotEnoughData", laid_pub_mailsack_pub_kmsg_inner_kbin_ErrNotEnoughData)] }
def FnDefaultDescribeClusterRequestSaid : Prop := fnDefaultDescribeClusterRequestRow.holds Tryd.pinned (OpenSpec.ofChange fnDefaultDescribeClusterRequestSpec)

/-- ITS FALSE NEIGHBOUR: 'it returns false'. Refute it at one input. -/
def fnDefaultDescribeClusterRequestWrong : ChangeSpec := { name := "fnDefaultDescribeClusterRequest", fn := fun _ => fun
  | [d1, d2] => { results := [.lit (.bool false)], args := [d1, d2] }
  | _ => none }
def FnDefaultDescribeClusterRequestWrongFalsely : Prop := fnDefaultDescribeClusterRequestRow.holds Tryd.pinned (OpenSpec.ofChange fnDefaultDescribeClusterRequestWrong)

/-- 'laws.FnDefaultAllocateProducerIDsRequest': WHATEVER THE INPUT: true; the input reads as it did. -/
def fnDefaultAllocateProducerIDsRequestSpec : ChangeSpec := { name := "fnDefaultAllocateProducerIDsRequest", fn := fun _ => fun
  | [d1, d2] => { results := [.lit (.bool true)], args := [d1, d2] }
  | _ => none }
def fnDefaultAllocateProducerIDsRequestRow : OpenClaim := { program := "ytjfgalpjjnncaaadoor", sum := "b00d20f285049a066b46fc3f61b72a99f7b5ca5a3976310abecedb94a7a25505", func := "pub-mailsack/laws.FnDefaultAllocateProducerIDsRequest", spec := "fnDefaultAllocateProducerIDsRequest", inPlace := ["internal/reflectlite.ValueOf", "internal/reflectlite.Swapper", "(internal/reflectlite.Value).Len"], unfollowed := true, recurses := true, named := ["encoding/binary.BigEndian", "pub-mailsack/pub/kmsg/inner/kbin.ErrNotEnoughData"], loops := true, apart := false, laid := [("pub-mailsack/pub/kmsg/inner/kbin.ErrNotEnoughData", laid_pub_mailsack_pub_kmsg_inner_kbin_ErrNotEnoughData)] }
def FnDefaultAllocateProducerIDsRequestSaid : Prop := fnDefaultAllocateProducerIDsRequestRow.holds Tryd.pinned (OpenSpec.ofChange fnDefaultAllocateProducerIDsRequestSpec)

/-- ITS FALSE NEIGHBOUR: 'it returns false'. Refute it at one input. -/
def fnDefaultAllocateProducerIDsRequestWrong : ChangeSpec := { name := "fnDefaultAllocateProducerIDsRequest", fn := fun _ => fun
  | [d1, d2] => { results := [.lit (.bool false)], args := [d1, d2] }
  | _ => none }
def FnDefaultAllocateProducerIDsRequestWrongFalsely : Prop := fnDefaultAllocateProducerIDsRequestRow.holds Tryd.pinned (OpenSpec.ofChange fnDefaultAllocateProducerIDsRequestWrong)

/-- 'laws.FnDefaultEndTxnResponse': WHATEVER THE INPUT: true; the input reads as it did. -/
def fnDefaultEndTxnResponseSpec : ChangeSpec := { name := "fnDefaultEndTxnResponse", fn := fun _ => fun
  | [d1, d2] => { results := [.lit (.bool true)], args := [d1, d2] }
  | _ => none }
def fnDefaultEndTxnResponseRow : OpenClaim := { program := "ytjfgalpjjnncaaadoor", sum := "b00d20f285049a066b46fc3f61b72a99f7b5ca5a3976310abecedb94a7a25505", func := "pub-mailsack/laws.FnDefaultEndTxnResponse", spec := "fnDefaultEndTxnResponse", inPlace := ["internal/reflectlite.ValueOf", "internal/reflectlite.Swapper", "(internal/reflectlite.Value).Len"], unfollowed := true, recurses := true, named := ["encoding/binary.BigEndian", "pub-mailsack/pub/kmsg/inner/kbin.ErrNotEnoughData"], loops := true, apart := false, laid := [("pub-mailsack/pub/kmsg/inner/kbin.ErrNotEnoughData", laid_pub_mailsack_pub_kmsg_inner_kbin_ErrNotEnoughData)] }
def FnDefaultEndTxnResponseSaid : Prop := fnDefaultEndTxnResponseRow.holds Tryd.pinned (OpenSpec.ofChange fnDefaultEndTxnResponseSpec)

/-- ITS FALSE NEIGHBOUR: 'it returns false'. Refute it at one input. -/
def fnDefaultEndTxnResponseWrong : ChangeSpec := { name := "fnDefaultEndTxnResponse", fn := fun _ => fun
  | [d1, d2] => { results := [.lit (.bool false)], args := [d1, d2] }
  | _ => none }
def FnDefaultEndTxnResponseWrongFalsely : Prop := fnDefaultEndTxnResponseRow.holds Tryd.pinned (OpenSpec.ofChange fnDefaultEndTxnResponseWrong)

/- THE SECOND FORM. 'bulk': how many values and letters a reading holds, each counted each time it is reached (what is shared counts as often as it is met; a slice's spare places count too). A statement '..UptoSaid' is the law's where the arguments, and the package variables that the reading takes, are together of bulk at most 1048576: NARROWER than '..Said'. Prove '..Said' where nothing that the law and all that it calls make is longer than what came in: it says more and counts as full. Else prove '..UptoSaid'. A law counts once. -/
mutual
def uptoBulk {H : Type} : DataW H → Nat
  | .lit (.string bytes) => bytes.length + 1
  | .lit _ => 1
  | .nil => 1
  | .ptr d => uptoBulk d + 1
  | .slice elems spare => uptoBulkAll elems + uptoBulkAll spare + 1
  | .agg parts => uptoBulkAll parts + 1
  | .iface _ d => uptoBulk d + 1
  | .map entries => uptoBulkEntries entries + 1
  | .held _ => 1
def uptoBulkAll {H : Type} : List (DataW H) → Nat
  | [] => 0
  | d :: r => uptoBulk d + uptoBulkAll r
def uptoBulkEntries {H : Type} : List (Lit × DataW H) → Nat
  | [] => 0
  | x :: r => uptoBulkEntry x + uptoBulkEntries r
def uptoBulkEntry {H : Type} : Lit × DataW H → Nat
  | (.string bytes, d) => bytes.length + uptoBulk d + 1
  | (_, d) => uptoBulk d + 1
 end
def uptoSmall : (H : Type) → List (DataW H) → Bool := fun _ ds => decide (uptoBulkAll ds ≤ 1048576)
def OpenSpec.upto (s : _root_.Go.ChangeSpec) : _root_.Go.OpenSpec := { _root_.Go.OpenSpec.ofChange s with cond := some uptoSmall }

/-- 'laws.FnTellListConfigResourcesRequest', WHERE WHAT IT READS IS OF BULK AT MOST 1048576: true; the input reads as it did. -/
def fnTellListConfigResourcesRequestUptoRow : OpenClaim := { program := "ytjfgalpjjnncaaadoor", sum := "b00d20f285049a066b46fc3f61b72a99f7b5ca5a3976310abecedb94a7a25505", func := "pub-mailsack/laws.FnTellListConfigResourcesRequest", spec := "fnTellListConfigResourcesRequest", inPlace := ["internal/reflectlite.ValueOf", "internal/reflectlite.Swapper", "(internal/reflectlite.Value).Len"], unfollowed := true, recurses := true, named := ["encoding/binary.BigEndian", "pub-mailsack/pub/kmsg/inner/kbin.ErrNotEnoughData"], loops := true, apart := false, laid := [("pub-mailsack/pub/kmsg/inner/kbin.ErrNotEnoughData", laid_pub_mailsack_pub_kmsg_inner_kbin_ErrNotEnoughData)], narrowed := true }
def FnTellListConfigResourcesRequestUptoSaid : Prop := fnTellListConfigResourcesRequestUptoRow.holds Tryd.pinned (OpenSpec.upto fnTellListConfigResourcesRequestSpec)

/-- 'laws.FnTellConsumerGroupDescribeRequest', WHERE WHAT IT READS IS OF BULK AT MOST 1048576: true; the input reads as it did. -/
def fnTellConsumerGroupDescribeRequestUptoRow : OpenClaim := { program := "ytjfgalpjjnncaaadoor", sum := "b00d20f285049a066b46fc3f61b72a99f7b5ca5a3976310abecedb94a7a25505", func := "pub-mailsack/laws.FnTellConsumerGroupDescribeRequest", spec := "fnTellConsumerGroupDescribeRequest", inPlace := ["internal/reflectlite.ValueOf", "internal/reflectlite.Swapper", "(internal/reflectlite.Value).Len"], unfollowed := true, recurses := true, named := ["encoding/binary.BigEndian", "pub-mailsack/pub/kmsg/inner/kbin.ErrNotEnoughData"], loops := true, apart := false, laid := [("pub-mailsack/pub/kmsg/inner/kbin.ErrNotEnoughData", laid_pub_mailsack_pub_kmsg_inner_kbin_ErrNotEnoughData)], narrowed := true }
def FnTellConsumerGroupDescribeRequestUptoSaid : Prop := fnTellConsumerGroupDescribeRequestUptoRow.holds Tryd.pinned (OpenSpec.upto fnTellConsumerGroupDescribeRequestSpec)

/-- 'laws.FnDefaultDescribeClusterRequest', WHERE WHAT IT READS IS OF BULK AT MOST 1048576: true; the input reads as it did. -/
def fnDefaultDescribeClusterRequestUptoRow : OpenClaim := { program := "ytjfgalpjjnncaaadoor", sum := "b00d20f285049a066b46fc3f61b72a99f7b5ca5a3976310abecedb94a7a25505", func := "pub-mailsack/laws.FnDefaultDescribeClusterRequest", spec := "fnDefaultDescribeClusterRequest", inPlace := ["internal/reflectlite.ValueOf", "internal/reflectlite.Swapper", "(internal/reflectlite.Value).Len"], unfollowed := true, recurses := true, named := ["pub-mailsack/pub/kmsg/inner/kbin.ErrNotEnoughData"], loops := true, apart := false, laid := [("pub-mailsack/pub/kmsg/inner/kbin.ErrNotEnoughData", laid_pub_mailsack_pub_kmsg_inner_kbin_ErrNotEnoughData)], narrowed := true }
def FnDefaultDescribeClusterRequestUptoSaid : Prop := fnDefaultDescribeClusterRequestUptoRow.holds Tryd.pinned (OpenSpec.upto fnDefaultDescribeClusterRequestSpec)

/-- 'laws.FnDefaultAllocateProducerIDsRequest', WHERE WHAT IT READS IS OF BULK AT MOST 1048576: true; the input reads as it did. -/
def fnDefaultAllocateProducerIDsRequestUptoRow : OpenClaim := { program := "ytjfgalpjjnncaaadoor", sum := "b00d20f285049a066b46fc3f61b72a99f7b5ca5a3976310abecedb94a7a25505", func := "pub-mailsack/laws.FnDefaultAllocateProducerIDsRequest", spec := "fnDefaultAllocateProducerIDsRequest", inPlace := ["internal/reflectlite.ValueOf", "internal/reflectlite.Swapper", "(internal/reflectlite.Value).Len"], unfollowed := true, recurses := true, named := ["encoding/binary.BigEndian", "pub-mailsack/pub/kmsg/inner/kbin.ErrNotEnoughData"], loops := true, apart := false, laid := [("pub-mailsack/pub/kmsg/inner/kbin.ErrNotEnoughData", laid_pub_mailsack_pub_kmsg_inner_kbin_ErrNotEnoughData)], narrowed := true }
def FnDefaultAllocateProducerIDsRequestUptoSaid : Prop := fnDefaultAllocateProducerIDsRequestUptoRow.holds Tryd.pinned (OpenSpec.upto fnDefaultAllocateProducerIDsRequestSpec)

/-- 'laws.FnDefaultEndTxnResponse', WHERE WHAT IT READS IS OF BULK AT MOST 1048576: true; the input reads as it did. -/
def fnDefaultEndTxnResponseUptoRow : OpenClaim := { program := "ytjfgalpjjnncaaadoor", sum := "b00d20f285049a066b46fc3f61b72a99f7b5ca5a3976310abecedb94a7a25505", func := "pub-mailsack/laws.FnDefaultEndTxnResponse", spec := "fnDefaultEndTxnResponse", inPlace := ["internal/reflectlite.ValueOf", "internal/reflectlite.Swapper", "(internal/reflectlite.Value).Len"], unfollowed := true, recurses := true, named := ["encoding/binary.BigEndian", "pub-mailsack/pub/kmsg/inner/kbin.ErrNotEnoughData"], loops := true, apart := false, laid := [("pub-mailsack/pub/kmsg/inner/kbin.ErrNotEnoughData", laid_pub_mailsack_pub_kmsg_inner_kbin_ErrNotEnoughData)], narrowed := true }
def FnDefaultEndTxnResponseUptoSaid : Prop := fnDefaultEndTxnResponseUptoRow.holds Tryd.pinned (OpenSpec.upto fnDefaultEndTxnResponseSpec)

end Rows
end Go.Proofs.YtjfgalpjjnncaaaDoor
