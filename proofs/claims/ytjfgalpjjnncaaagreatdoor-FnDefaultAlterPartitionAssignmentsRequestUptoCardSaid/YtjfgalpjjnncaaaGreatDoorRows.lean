/-
  NARROWER THAN 'FOR EVERY INPUT', by the rows' own cells (each row's printed sentence says how): FnTellListPartitionReassignmentsRequest: loops, laid · FnTellListGroupsResponse: loops, laid · FnTellAssignReplicasToDirsRequest: loops, laid · FnTellCreatePartitionsRequest: loops, laid · FnTellAlterPartitionResponse: loops, laid · FnTellTxnMetadataValue: loops, laid · FnDefaultAlterPartitionAssignmentsRequest: loops, laid.
  DERIVED. THE GIVEN ROWS OF THIS SEAT. 7 by the template 'for every input the law returns true; each argument reads behind the call as it read before'; 0 by the template 'total and deterministic' (their statements: YtjfgalpjjnncaaaGreatDoorTotals.lean).
  GIVEN WITH THE SEED: the statements are not yours to turn. If you find one false, say at which input.
  Laid BY PROGRAM, IN A SANDBOX (cutbox-rows.mjs): the forced cells as the released guide's own fill.sh prints them over the translation 138c77d9266ed1b0… (all of the seat's roots in one cut). By AI agents, Wed Nov 11 2026. No macro, syntax, notation, axiom, sorry.
-/
import Derived.Test.YtjfgalpjjnncaaaGreatDoorChecked
import GoSem.Claim
import GoSem.ClaimJoined
import GoSem.ClaimMapViews
import Derived.JoinedTies
import Derived.KernelRfl
namespace Go.Proofs.YtjfgalpjjnncaaaGreatDoor
/- THE CELL 'sum', in the pinned program and in every row, IS THE sha256 OF THE DUMP (.gsa) THAT YtjfgalpjjnncaaaGreatDoorProg.lean LOADS. Nothing in Lean hashes anything: it is a label: what it is worth is what the hold of that sum in a sandbox is worth. -/
noncomputable def Tryz.pinned : Pinned := { name := "ytjfgalpjjnncaaagreatdoor", sum := "138c77d9266ed1b000a5bb5971cd4cc2336bccc135d573f15aa2a9c1aba755ed", checked := Tryz.checked }
namespace Rows
def none {H : Type} : Left H := { results := [], args := [] }

/- WHAT THE LISTED PACKAGE-LEVEL VARIABLES READ AS WHEN THE CALL BEGINS. Each datum BY PROGRAM (the guide's laid-datum.mjs) off the statement by which the dump's own 'gosem.cut.vars' lays the variable. In a bare row this is a premise. The card (YtjfgalpjjnncaaaGreatDoorCards.lean) ties it to the program's text. -/
def laid_pub_mailsack_pub_kmsg_inner_kbin_ErrNotEnoughData {H : Type} : DataW H := .iface "*errors.errorString" (.ptr (.agg [.lit (.string [114, 101, 115, 112, 111, 110, 115, 101, 32, 100, 105, 100, 32, 110, 111, 116, 32, 99, 111, 110, 116, 97, 105, 110, 32, 101, 110, 111, 117, 103, 104, 32, 100, 97, 116, 97, 32, 116, 111, 32, 98, 101, 32, 118, 97, 108, 105, 100])]))

/-- 'laws.FnTellListPartitionReassignmentsRequest': WHATEVER THE INPUT: true; the input reads as it did. -/
def fnTellListPartitionReassignmentsRequestSpec : ChangeSpec := { name := "fnTellListPartitionReassignmentsRequest", fn := fun _ => fun
  | [d1, d2] => { results := [.lit (.bool true)], args := [d1, d2] }
  | _ => none }
def fnTellListPartitionReassignmentsRequestRow : OpenClaim := { program := "ytjfgalpjjnncaaagreatdoor", sum := "138c77d9266ed1b000a5bb5971cd4cc2336bccc135d573f15aa2a9c1aba755ed", func := "pub-mailsack/laws.FnTellListPartitionReassignmentsRequest", spec := "fnTellListPartitionReassignmentsRequest", inPlace := ["internal/reflectlite.ValueOf", "internal/reflectlite.Swapper", "(internal/reflectlite.Value).Len"], unfollowed := true, recurses := true, named := ["encoding/binary.BigEndian", "pub-mailsack/pub/kmsg/inner/kbin.ErrNotEnoughData"], loops := true, apart := false, laid := [("pub-mailsack/pub/kmsg/inner/kbin.ErrNotEnoughData", laid_pub_mailsack_pub_kmsg_inner_kbin_ErrNotEnoughData)] }
def FnTellListPartitionReassignmentsRequestSaid : Prop := fnTellListPartitionReassignmentsRequestRow.holds Tryz.pinned (OpenSpec.ofChange fnTellListPartitionReassignmentsRequestSpec)

/-- ITS FALSE NEIGHBOUR: 'it returns false'. Refute it at one input. -/
def fnTellListPartitionReassignmentsRequestWrong : ChangeSpec := { name := "fnTellListPartitionReassignmentsRequest", fn := fun _ => fun
  | [d1, d2] => { results := [.lit (.bool false)], args := [d1, d2] }
  | _ => none }
def FnTellListPartitionReassignmentsRequestWrongFalsely : Prop := fnTellListPartitionReassignmentsRequestRow.holds Tryz.pinned (OpenSpec.ofChange fnTellListPartitionReassignmentsRequestWrong)

/-- 'laws.FnTellListGroupsResponse': WHATEVER THE INPUT: true; the input reads as it did. -/
def fnTellListGroupsResponseSpec : ChangeSpec := { name := "fnTellListGroupsResponse", fn := fun _ => fun
  | [d1, d2] => { results := [.lit (.bool true)], args := [d1, d2] }
  | _ => none }
def fnTellListGroupsResponseRow : OpenClaim := { program := "ytjfgalpjjnncaaagreatdoor", sum := "138c77d9266ed1b000a5bb5971cd4cc2336bccc135d573f15aa2a9c1aba755ed", func := "pub-mailsack/laws.FnTellListGroupsResponse", spec := "fnTellListGroupsResponse", inPlace := ["internal/reflectlite.ValueOf", "internal/reflectlite.Swapper", "(internal/reflectlite.Value).Len"], unfollowed := true, recurses := true, named := ["encoding/binary.BigEndian", "pub-mailsack/pub/kmsg/inner/kbin.ErrNotEnoughData"], loops := true, apart := false, laid := [("pub-mailsack/pub/kmsg/inner/kbin.ErrNotEnoughData", laid_pub_mailsack_pub_kmsg_inner_kbin_ErrNotEnoughData)] }
def FnTellListGroupsResponseSaid : Prop := fnTellListGroupsResponseRow.holds Tryz.pinned (OpenSpec.ofChange fnTellListGroupsResponseSpec)

/-- ITS FALSE NEIGHBOUR: 'it returns false'. Refute it at one input. -/
def fnTellListGroupsResponseWrong : ChangeSpec := { name := "fnTellListGroupsResponse", fn := fun _ => fun
  | [d1, d2] => { results := [.lit (.bool false)], args := [d1, d2] }
  | _ => none }
def FnTellListGroupsResponseWrongFalsely : Prop := fnTellListGroupsResponseRow.holds Tryz.pinned (OpenSpec.ofChange fnTellListGroupsResponseWrong)

/-- 'laws.FnTellAssignReplicasToDirsRequest': WHATEVER THE INPUT: true; the input reads as it did. -/
def fnTellAssignReplicasToDirsRequestSpec : ChangeSpec := { name := "fnTellAssignReplicasToDirsRequest", fn := fun _ => fun
  | [d1, d2] => { results := [.lit (.bool true)], args := [d1, d2] }
  | _ => none }
def fnTellAssignReplicasToDirsRequestRow : OpenClaim := { program := "ytjfgalpjjnncaaagreatdoor", sum := "138c77d9266ed1b000a5bb5971cd4cc2336bccc135d573f15aa2a9c1aba755ed", func := "pub-mailsack/laws.FnTellAssignReplicasToDirsRequest", spec := "fnTellAssignReplicasToDirsRequest", inPlace := ["internal/reflectlite.ValueOf", "internal/reflectlite.Swapper", "(internal/reflectlite.Value).Len"], unfollowed := true, recurses := true, named := ["encoding/binary.BigEndian", "pub-mailsack/pub/kmsg/inner/kbin.ErrNotEnoughData"], loops := true, apart := false, laid := [("pub-mailsack/pub/kmsg/inner/kbin.ErrNotEnoughData", laid_pub_mailsack_pub_kmsg_inner_kbin_ErrNotEnoughData)] }
def FnTellAssignReplicasToDirsRequestSaid : Prop := fnTellAssignReplicasToDirsRequestRow.holds Tryz.pinned (OpenSpec.ofChange fnTellAssignReplicasToDirsRequestSpec)

/-- ITS FALSE NEIGHBOUR: 'it returns false'. Refute it at one input. -/
def fnTellAssignReplicasToDirsRequestWrong : ChangeSpec := { name := "fnTellAssignReplicasToDirsRequest", fn := fun _ => fun
  | [d1, d2] => { results := [.lit (.bool false)], args := [d1, d2] }
  | _ => none }
def FnTellAssignReplicasToDirsRequestWrongFalsely : Prop := fnTellAssignReplicasToDirsRequestRow.holds Tryz.pinned (OpenSpec.ofChange fnTellAssignReplicasToDirsRequestWrong)

/-- 'laws.FnTellCreatePartitionsRequest': WHATEVER THE INPUT: true; the input reads as it did. -/
def fnTellCreatePartitionsRequestSpec : ChangeSpec := { name := "fnTellCreatePartitionsRequest", fn := fun _ => fun
  | [d1, d2] => { results := [.lit (.bool true)], args := [d1, d2] }
  | _ => none }
def fnTellCreatePartitionsRequestRow : OpenClaim := { program := "ytjfgalpjjnncaaagreatdoor", sum := "138c77d9266ed1b000a5bb5971cd4cc2336bccc135d573f15aa2a9c1aba755ed", func := "pub-mailsack/laws.FnTellCreatePartitionsRequest", spec := "fnTellCreatePartitionsRequest", inPlace := ["internal/reflectlite.ValueOf", "internal/reflectlite.Swapper", "(internal/reflectlite.Value).Len"], unfollowed := true, recurses := true, named := ["encoding/binary.BigEndian", "pub-mailsack/pub/kmsg/inner/kbin.ErrNotEnoughData"], loops := true, apart := false, laid := [("pub-mailsack/pub/kmsg/inner/kbin.ErrNotEnoughData", laid_pub_mailsack_pub_kmsg_inner_kbin_ErrNotEnoughData)] }
def FnTellCreatePartitionsRequestSaid : Prop := fnTellCreatePartitionsRequestRow.holds Tryz.pinned (OpenSpec.ofChange fnTellCreatePartitionsRequestSpec)

/-- ITS FALSE NEIGHBOUR: 'it returns false'. Refute it at one input. -/
def fnTellCreatePartitionsRequestWrong : ChangeSpec := { name := "fnTellCreatePartitionsRequest", fn := fun _ => fun
  | [d1, d2] => { results := [.lit (.bool false)], args := [d1, d2] }
  | _ => none }
def FnTellCreatePartitionsRequestWrongFalsely : Prop := fnTellCreatePartitionsRequestRow.holds Tryz.pinned (OpenSpec.ofChange fnTellCreatePartitionsRequestWrong)

/-- 'laws.FnTellAlterPartitionResponse': WHATEVER THE INPUT: true; the input reads as it did. -/
def fnTellAlterPartitionResponseSpec : ChangeSpec := { name := "fnTellAlterPartitionResponse", fn := fun _ => fun
  | [d1, d2] => { results := [.lit (.bool true)], args := [d1, d2] }
  | _ => none }
def fnTellAlterPartitionResponseRow : OpenClaim := { program := "ytjfgalpjjnncaaagreatdoor", sum := "138c77d9266ed1b000a5bb5971cd4cc2336bccc135d573f15aa2a9c1aba755ed", func := "pub-mailsack/laws.FnTellAlterPartitionResponse", spec := "fnTellAlterPartitionResponse", inPlace := ["internal/reflectlite.ValueOf", "internal/reflectlite.Swapper", "(internal/reflectlite.Value).Len"], unfollowed := true, recurses := true, named := ["encoding/binary.BigEndian", "pub-mailsack/pub/kmsg/inner/kbin.ErrNotEnoughData"], loops := true, apart := false, laid := [("pub-mailsack/pub/kmsg/inner/kbin.ErrNotEnoughData", laid_pub_mailsack_pub_kmsg_inner_kbin_ErrNotEnoughData)] }
def FnTellAlterPartitionResponseSaid : Prop := fnTellAlterPartitionResponseRow.holds Tryz.pinned (OpenSpec.ofChange fnTellAlterPartitionResponseSpec)

/-- ITS FALSE NEIGHBOUR: 'it returns false'. Refute it at one input. -/
def fnTellAlterPartitionResponseWrong : ChangeSpec := { name := "fnTellAlterPartitionResponse", fn := fun _ => fun
  | [d1, d2] => { results := [.lit (.bool false)], args := [d1, d2] }
  | _ => none }
def FnTellAlterPartitionResponseWrongFalsely : Prop := fnTellAlterPartitionResponseRow.holds Tryz.pinned (OpenSpec.ofChange fnTellAlterPartitionResponseWrong)

/-- 'laws.FnTellTxnMetadataValue': WHATEVER THE INPUT: true; the input reads as it did. -/
def fnTellTxnMetadataValueSpec : ChangeSpec := { name := "fnTellTxnMetadataValue", fn := fun _ => fun
  | [d1, d2] => { results := [.lit (.bool true)], args := [d1, d2] }
  | _ => none }
def fnTellTxnMetadataValueRow : OpenClaim := { program := "ytjfgalpjjnncaaagreatdoor", sum := "138c77d9266ed1b000a5bb5971cd4cc2336bccc135d573f15aa2a9c1aba755ed", func := "pub-mailsack/laws.FnTellTxnMetadataValue", spec := "fnTellTxnMetadataValue", inPlace := ["internal/reflectlite.ValueOf", "internal/reflectlite.Swapper", "(internal/reflectlite.Value).Len"], unfollowed := true, recurses := true, named := ["encoding/binary.BigEndian", "pub-mailsack/pub/kmsg/inner/kbin.ErrNotEnoughData"], loops := true, apart := false, laid := [("pub-mailsack/pub/kmsg/inner/kbin.ErrNotEnoughData", laid_pub_mailsack_pub_kmsg_inner_kbin_ErrNotEnoughData)] }
def FnTellTxnMetadataValueSaid : Prop := fnTellTxnMetadataValueRow.holds Tryz.pinned (OpenSpec.ofChange fnTellTxnMetadataValueSpec)

/-- ITS FALSE NEIGHBOUR: 'it returns false'. Refute it at one input. -/
def fnTellTxnMetadataValueWrong : ChangeSpec := { name := "fnTellTxnMetadataValue", fn := fun _ => fun
  | [d1, d2] => { results := [.lit (.bool false)], args := [d1, d2] }
  | _ => none }
def FnTellTxnMetadataValueWrongFalsely : Prop := fnTellTxnMetadataValueRow.holds Tryz.pinned (OpenSpec.ofChange fnTellTxnMetadataValueWrong)

/-- 'laws.FnDefaultAlterPartitionAssignmentsRequest': WHATEVER THE INPUT: true; the input reads as it did. -/
def fnDefaultAlterPartitionAssignmentsRequestSpec : ChangeSpec := { name := "fnDefaultAlterPartitionAssignmentsRequest", fn := fun _ => fun
  | [d1, d2] => { results := [.lit (.bool true)], args := [d1, d2] }
  | _ => none }
def fnDefaultAlterPartitionAssignmentsRequestRow : OpenClaim := { program := "ytjfgalpjjnncaaagreatdoor", sum := "138c77d9266ed1b000a5bb5971cd4cc2336bccc135d573f15aa2a9c1aba755ed", func := "pub-mailsack/laws.FnDefaultAlterPartitionAssignmentsRequest", spec := "fnDefaultAlterPartitionAssignmentsRequest", inPlace := ["internal/reflectlite.ValueOf", "internal/reflectlite.Swapper", "(internal/reflectlite.Value).Len"], unfollowed := true, recurses := true, named := ["encoding/binary.BigEndian", "pub-mailsack/pub/kmsg/inner/kbin.ErrNotEnoughData"], loops := true, apart := false, laid := [("pub-mailsack/pub/kmsg/inner/kbin.ErrNotEnoughData", laid_pub_mailsack_pub_kmsg_inner_kbin_ErrNotEnoughData)] }
def FnDefaultAlterPartitionAssignmentsRequestSaid : Prop := fnDefaultAlterPartitionAssignmentsRequestRow.holds Tryz.pinned (OpenSpec.ofChange fnDefaultAlterPartitionAssignmentsRequestSpec)

/-- ITS FALSE NEIGHBOUR: 'it returns false'. Refute it at one input. -/
def fnDefaultAlterPartitionAssignmentsRequestWrong : ChangeSpec := { name := "fnDefaultAlterPartitionAssignmentsRequest", fn := fun _ => fun
  | [d1, d2] => { results := [.lit (.bool false)], args := [d1, d2] }
  | _ => none }
def FnDefaultAlterPartitionAssignmentsRequestWrongFalsely : Prop := fnDefaultAlterPartitionAssignmentsRequestRow.holds Tryz.pinned (OpenSpec.ofChange fnDefaultAlterPartitionAssignmentsRequestWrong)

/- THE SECOND FORM. 'bulk': how many values and letters a reading holds, each counted each time it is reached (what is shared counts as often as it is met; a slice's spare places count too). A statement '..UptoSaid' is the law's where the arguments, and the package variables that the reading takes, are together of bulk at most 1048576: NARROWER than '..Said'. Prove '..Said' where nothing that the law and all that it calls make is longer than what came in: it says more and counts as full. Else prove '..UptoSaid'. A law counts once. -/
mutual
def uptoBulk {H : Type} : DataW H → Nat
  | .lit (.string bytes) => bytes.length + 1
  | .lit _ => 1
  | .nil => 1
  | .ptr d => uptoBulk d + 1
  | .slice elems spare => uptoBulkAll elems + uptoBulkAll spare + 1
  | .agg parts => uptoBulkAll parts + 1
  | .iface _ d => uptoBulk d + 1
  | .map entries => uptoBulkEntries entries + 1
  | .held _ => 1
def uptoBulkAll {H : Type} : List (DataW H) → Nat
  | [] => 0
  | d :: r => uptoBulk d + uptoBulkAll r
def uptoBulkEntries {H : Type} : List (Lit × DataW H) → Nat
  | [] => 0
  | x :: r => uptoBulkEntry x + uptoBulkEntries r
def uptoBulkEntry {H : Type} : Lit × DataW H → Nat
  | (.string bytes, d) => bytes.length + uptoBulk d + 1
  | (_, d) => uptoBulk d + 1
 end
def uptoSmall : (H : Type) → List (DataW H) → Bool := fun _ ds => decide (uptoBulkAll ds ≤ 1048576)
def OpenSpec.upto (s : _root_.Go.ChangeSpec) : _root_.Go.OpenSpec := { _root_.Go.OpenSpec.ofChange s with cond := some uptoSmall }

/-- 'laws.FnTellListPartitionReassignmentsRequest', WHERE WHAT IT READS IS OF BULK AT MOST 1048576: true; the input reads as it did. -/
def fnTellListPartitionReassignmentsRequestUptoRow : OpenClaim := { program := "ytjfgalpjjnncaaagreatdoor", sum := "138c77d9266ed1b000a5bb5971cd4cc2336bccc135d573f15aa2a9c1aba755ed", func := "pub-mailsack/laws.FnTellListPartitionReassignmentsRequest", spec := "fnTellListPartitionReassignmentsRequest", inPlace := ["internal/reflectlite.ValueOf", "internal/reflectlite.Swapper", "(internal/reflectlite.Value).Len"], unfollowed := true, recurses := true, named := ["encoding/binary.BigEndian", "pub-mailsack/pub/kmsg/inner/kbin.ErrNotEnoughData"], loops := true, apart := false, laid := [("pub-mailsack/pub/kmsg/inner/kbin.ErrNotEnoughData", laid_pub_mailsack_pub_kmsg_inner_kbin_ErrNotEnoughData)], narrowed := true }
def FnTellListPartitionReassignmentsRequestUptoSaid : Prop := fnTellListPartitionReassignmentsRequestUptoRow.holds Tryz.pinned (OpenSpec.upto fnTellListPartitionReassignmentsRequestSpec)

/-- 'laws.FnTellListGroupsResponse', WHERE WHAT IT READS IS OF BULK AT MOST 1048576: true; the input reads as it did. -/
def fnTellListGroupsResponseUptoRow : OpenClaim := { program := "ytjfgalpjjnncaaagreatdoor", sum := "138c77d9266ed1b000a5bb5971cd4cc2336bccc135d573f15aa2a9c1aba755ed", func := "pub-mailsack/laws.FnTellListGroupsResponse", spec := "fnTellListGroupsResponse", inPlace := ["internal/reflectlite.ValueOf", "internal/reflectlite.Swapper", "(internal/reflectlite.Value).Len"], unfollowed := true, recurses := true, named := ["encoding/binary.BigEndian", "pub-mailsack/pub/kmsg/inner/kbin.ErrNotEnoughData"], loops := true, apart := false, laid := [("pub-mailsack/pub/kmsg/inner/kbin.ErrNotEnoughData", laid_pub_mailsack_pub_kmsg_inner_kbin_ErrNotEnoughData)], narrowed := true }
def FnTellListGroupsResponseUptoSaid : Prop := fnTellListGroupsResponseUptoRow.holds Tryz.pinned (OpenSpec.upto fnTellListGroupsResponseSpec)

/-- 'laws.FnTellAssignReplicasToDirsRequest', WHERE WHAT IT READS IS OF BULK AT MOST 1048576: true; the input reads as it did. -/
def fnTellAssignReplicasToDirsRequestUptoRow : OpenClaim := { program := "ytjfgalpjjnncaaagreatdoor", sum := "138c77d9266ed1b000a5bb5971cd4cc2336bccc135d573f15aa2a9c1aba755ed", func := "pub-mailsack/laws.FnTellAssignReplicasToDirsRequest", spec := "fnTellAssignReplicasToDirsRequest", inPlace := ["internal/reflectlite.ValueOf", "internal/reflectlite.Swapper", "(internal/reflectlite.Value).Len"], unfollowed := true, recurses := true, named := ["encoding/binary.BigEndian", "pub-mailsack/pub/kmsg/inner/kbin.ErrNotEnoughData"], loops := true, apart := false, laid := [("pub-mailsack/pub/kmsg/inner/kbin.ErrNotEnoughData", laid_pub_mailsack_pub_kmsg_inner_kbin_ErrNotEnoughData)], narrowed := true }
def FnTellAssignReplicasToDirsRequestUptoSaid : Prop := fnTellAssignReplicasToDirsRequestUptoRow.holds Tryz.pinned (OpenSpec.upto fnTellAssignReplicasToDirsRequestSpec)

/-- 'laws.FnTellCreatePartitionsRequest', WHERE WHAT IT READS IS OF BULK AT MOST 1048576: true; the input reads as it did. -/
def fnTellCreatePartitionsRequestUptoRow : OpenClaim := { program := "ytjfgalpjjnncaaagreatdoor", sum := "138c77d9266ed1b000a5bb5971cd4cc2336bccc135d573f15aa2a9c1aba755ed", func := "pub-mailsack/laws.FnTellCreatePartitionsRequest", spec := "fnTellCreatePartitionsRequest", inPlace := ["internal/reflectlite.ValueOf", "internal/reflectlite.Swapper", "(internal/reflectlite.Value).Len"], unfollowed := true, recurses := true, named := ["encoding/binary.BigEndian", "pub-mailsack/pub/kmsg/inner/kbin.ErrNotEnoughData"], loops := true, apart := false, laid := [("pub-mailsack/pub/kmsg/inner/kbin.ErrNotEnoughData", laid_pub_mailsack_pub_kmsg_inner_kbin_ErrNotEnoughData)], narrowed := true }
def FnTellCreatePartitionsRequestUptoSaid : Prop := fnTellCreatePartitionsRequestUptoRow.holds Tryz.pinned (OpenSpec.upto fnTellCreatePartitionsRequestSpec)

/-- 'laws.FnTellAlterPartitionResponse', WHERE WHAT IT READS IS OF BULK AT MOST 1048576: true; the input reads as it did. -/
def fnTellAlterPartitionResponseUptoRow : OpenClaim := { program := "ytjfgalpjjnncaaagreatdoor", sum := "138c77d9266ed1b000a5bb5971cd4cc2336bccc135d573f15aa2a9c1aba755ed", func := "pub-mailsack/laws.FnTellAlterPartitionResponse", spec := "fnTellAlterPartitionResponse", inPlace := ["internal/reflectlite.ValueOf", "internal/reflectlite.Swapper", "(internal/reflectlite.Value).Len"], unfollowed := true, recurses := true, named := ["encoding/binary.BigEndian", "pub-mailsack/pub/kmsg/inner/kbin.ErrNotEnoughData"], loops := true, apart := false, laid := [("pub-mailsack/pub/kmsg/inner/kbin.ErrNotEnoughData", laid_pub_mailsack_pub_kmsg_inner_kbin_ErrNotEnoughData)], narrowed := true }
def FnTellAlterPartitionResponseUptoSaid : Prop := fnTellAlterPartitionResponseUptoRow.holds Tryz.pinned (OpenSpec.upto fnTellAlterPartitionResponseSpec)

/-- 'laws.FnTellTxnMetadataValue', WHERE WHAT IT READS IS OF BULK AT MOST 1048576: true; the input reads as it did. -/
def fnTellTxnMetadataValueUptoRow : OpenClaim := { program := "ytjfgalpjjnncaaagreatdoor", sum := "138c77d9266ed1b000a5bb5971cd4cc2336bccc135d573f15aa2a9c1aba755ed", func := "pub-mailsack/laws.FnTellTxnMetadataValue", spec := "fnTellTxnMetadataValue", inPlace := ["internal/reflectlite.ValueOf", "internal/reflectlite.Swapper", "(internal/reflectlite.Value).Len"], unfollowed := true, recurses := true, named := ["encoding/binary.BigEndian", "pub-mailsack/pub/kmsg/inner/kbin.ErrNotEnoughData"], loops := true, apart := false, laid := [("pub-mailsack/pub/kmsg/inner/kbin.ErrNotEnoughData", laid_pub_mailsack_pub_kmsg_inner_kbin_ErrNotEnoughData)], narrowed := true }
def FnTellTxnMetadataValueUptoSaid : Prop := fnTellTxnMetadataValueUptoRow.holds Tryz.pinned (OpenSpec.upto fnTellTxnMetadataValueSpec)

/-- 'laws.FnDefaultAlterPartitionAssignmentsRequest', WHERE WHAT IT READS IS OF BULK AT MOST 1048576: true; the input reads as it did. -/
def fnDefaultAlterPartitionAssignmentsRequestUptoRow : OpenClaim := { program := "ytjfgalpjjnncaaagreatdoor", sum := "138c77d9266ed1b000a5bb5971cd4cc2336bccc135d573f15aa2a9c1aba755ed", func := "pub-mailsack/laws.FnDefaultAlterPartitionAssignmentsRequest", spec := "fnDefaultAlterPartitionAssignmentsRequest", inPlace := ["internal/reflectlite.ValueOf", "internal/reflectlite.Swapper", "(internal/reflectlite.Value).Len"], unfollowed := true, recurses := true, named := ["encoding/binary.BigEndian", "pub-mailsack/pub/kmsg/inner/kbin.ErrNotEnoughData"], loops := true, apart := false, laid := [("pub-mailsack/pub/kmsg/inner/kbin.ErrNotEnoughData", laid_pub_mailsack_pub_kmsg_inner_kbin_ErrNotEnoughData)], narrowed := true }
def FnDefaultAlterPartitionAssignmentsRequestUptoSaid : Prop := fnDefaultAlterPartitionAssignmentsRequestUptoRow.holds Tryz.pinned (OpenSpec.upto fnDefaultAlterPartitionAssignmentsRequestSpec)

end Rows
end Go.Proofs.YtjfgalpjjnncaaaGreatDoor
