/-
  NARROWER THAN 'FOR EVERY INPUT', by the rows' own cells (each row's printed sentence says how): FnFrameBeginQuorumEpochRequest: loops, laid · FnFrameEndQuorumEpochRequest: loops, laid · FnFrameShareFetchRequest: loops, laid · FnFrameSASLAuthenticateRequest: loops, laid · FnFrameExpireDelegationTokenRequest: loops, laid · FnFrameAddOffsetsToTxnRequest: loops, laid · FnFrameListTransactionsRequest: loops, laid.
  DERIVED. THE GIVEN ROWS OF THIS SEAT. 7 by the template 'for every input the law returns true; each argument reads behind the call as it read before'; 0 by the template 'total and deterministic' (their statements: YtgjplodgdgaakaaGreatDoorTotals.lean).
  GIVEN WITH THE SEED: the statements are not yours to turn. If you find one false, say at which input.
  Laid BY PROGRAM, IN A SANDBOX (cutbox-rows.mjs): the forced cells as the released guide's own fill.sh prints them over the translation e3c224851e094eb5… (all of the seat's roots in one cut). By AI agents, Wed Nov 11 2026. No macro, syntax, notation, axiom, sorry.
-/
import Derived.Test.YtgjplodgdgaakaaGreatDoorChecked
import GoSem.Claim
import GoSem.ClaimJoined
import GoSem.ClaimMapViews
import Derived.JoinedTies
import Derived.KernelRfl
namespace Go.Proofs.YtgjplodgdgaakaaGreatDoor
/- THE CELL 'sum', in the pinned program and in every row, IS THE sha256 OF THE DUMP (.gsa) THAT YtgjplodgdgaakaaGreatDoorProg.lean LOADS. Nothing in Lean hashes anything: it is a label: what it is worth is what the hold of that sum in a sandbox is worth. -/
noncomputable def Tryz.pinned : Pinned := { name := "ytgjplodgdgaakaagreatdoor", sum := "e3c224851e094eb50383e238a1b241be4b521d7224888cb217e3762e8d638623", checked := Tryz.checked }
namespace Rows
def none {H : Type} : Left H := { results := [], args := [] }

/- WHAT THE LISTED PACKAGE-LEVEL VARIABLES READ AS WHEN THE CALL BEGINS. Each datum BY PROGRAM (the guide's laid-datum.mjs) off the statement by which the dump's own 'gosem.cut.vars' lays the variable. In a bare row this is a premise. The card (YtgjplodgdgaakaaGreatDoorCards.lean) ties it to the program's text. -/
def laid_pub_mailsack_pub_kmsg_inner_kbin_ErrNotEnoughData {H : Type} : DataW H := .iface "*errors.errorString" (.ptr (.agg [.lit (.string [114, 101, 115, 112, 111, 110, 115, 101, 32, 100, 105, 100, 32, 110, 111, 116, 32, 99, 111, 110, 116, 97, 105, 110, 32, 101, 110, 111, 117, 103, 104, 32, 100, 97, 116, 97, 32, 116, 111, 32, 98, 101, 32, 118, 97, 108, 105, 100])]))

/-- 'laws.FnFrameBeginQuorumEpochRequest': WHATEVER THE INPUT: true; the input reads as it did. -/
def fnFrameBeginQuorumEpochRequestSpec : ChangeSpec := { name := "fnFrameBeginQuorumEpochRequest", fn := fun _ => fun
  | [d1, d2, d3, d4] => { results := [.lit (.bool true)], args := [d1, d2, d3, d4] }
  | _ => none }
def fnFrameBeginQuorumEpochRequestRow : OpenClaim := { program := "ytgjplodgdgaakaagreatdoor", sum := "e3c224851e094eb50383e238a1b241be4b521d7224888cb217e3762e8d638623", func := "pub-mailsack/laws.FnFrameBeginQuorumEpochRequest", spec := "fnFrameBeginQuorumEpochRequest", unfollowed := true, recurses := true, named := ["encoding/binary.BigEndian", "pub-mailsack/pub/kmsg/inner/kbin.ErrNotEnoughData"], loops := true, apart := false, laid := [("pub-mailsack/pub/kmsg/inner/kbin.ErrNotEnoughData", laid_pub_mailsack_pub_kmsg_inner_kbin_ErrNotEnoughData)] }
def FnFrameBeginQuorumEpochRequestSaid : Prop := fnFrameBeginQuorumEpochRequestRow.holds Tryz.pinned (OpenSpec.ofChange fnFrameBeginQuorumEpochRequestSpec)

/-- ITS FALSE NEIGHBOUR: 'it returns false'. Refute it at one input. -/
def fnFrameBeginQuorumEpochRequestWrong : ChangeSpec := { name := "fnFrameBeginQuorumEpochRequest", fn := fun _ => fun
  | [d1, d2, d3, d4] => { results := [.lit (.bool false)], args := [d1, d2, d3, d4] }
  | _ => none }
def FnFrameBeginQuorumEpochRequestWrongFalsely : Prop := fnFrameBeginQuorumEpochRequestRow.holds Tryz.pinned (OpenSpec.ofChange fnFrameBeginQuorumEpochRequestWrong)

/-- 'laws.FnFrameEndQuorumEpochRequest': WHATEVER THE INPUT: true; the input reads as it did. -/
def fnFrameEndQuorumEpochRequestSpec : ChangeSpec := { name := "fnFrameEndQuorumEpochRequest", fn := fun _ => fun
  | [d1, d2, d3, d4] => { results := [.lit (.bool true)], args := [d1, d2, d3, d4] }
  | _ => none }
def fnFrameEndQuorumEpochRequestRow : OpenClaim := { program := "ytgjplodgdgaakaagreatdoor", sum := "e3c224851e094eb50383e238a1b241be4b521d7224888cb217e3762e8d638623", func := "pub-mailsack/laws.FnFrameEndQuorumEpochRequest", spec := "fnFrameEndQuorumEpochRequest", unfollowed := true, recurses := true, named := ["encoding/binary.BigEndian", "pub-mailsack/pub/kmsg/inner/kbin.ErrNotEnoughData"], loops := true, apart := false, laid := [("pub-mailsack/pub/kmsg/inner/kbin.ErrNotEnoughData", laid_pub_mailsack_pub_kmsg_inner_kbin_ErrNotEnoughData)] }
def FnFrameEndQuorumEpochRequestSaid : Prop := fnFrameEndQuorumEpochRequestRow.holds Tryz.pinned (OpenSpec.ofChange fnFrameEndQuorumEpochRequestSpec)

/-- ITS FALSE NEIGHBOUR: 'it returns false'. Refute it at one input. -/
def fnFrameEndQuorumEpochRequestWrong : ChangeSpec := { name := "fnFrameEndQuorumEpochRequest", fn := fun _ => fun
  | [d1, d2, d3, d4] => { results := [.lit (.bool false)], args := [d1, d2, d3, d4] }
  | _ => none }
def FnFrameEndQuorumEpochRequestWrongFalsely : Prop := fnFrameEndQuorumEpochRequestRow.holds Tryz.pinned (OpenSpec.ofChange fnFrameEndQuorumEpochRequestWrong)

/-- 'laws.FnFrameShareFetchRequest': WHATEVER THE INPUT: true; the input reads as it did. -/
def fnFrameShareFetchRequestSpec : ChangeSpec := { name := "fnFrameShareFetchRequest", fn := fun _ => fun
  | [d1, d2, d3, d4] => { results := [.lit (.bool true)], args := [d1, d2, d3, d4] }
  | _ => none }
def fnFrameShareFetchRequestRow : OpenClaim := { program := "ytgjplodgdgaakaagreatdoor", sum := "e3c224851e094eb50383e238a1b241be4b521d7224888cb217e3762e8d638623", func := "pub-mailsack/laws.FnFrameShareFetchRequest", spec := "fnFrameShareFetchRequest", unfollowed := true, recurses := true, named := ["encoding/binary.BigEndian", "pub-mailsack/pub/kmsg/inner/kbin.ErrNotEnoughData"], loops := true, apart := false, laid := [("pub-mailsack/pub/kmsg/inner/kbin.ErrNotEnoughData", laid_pub_mailsack_pub_kmsg_inner_kbin_ErrNotEnoughData)] }
def FnFrameShareFetchRequestSaid : Prop := fnFrameShareFetchRequestRow.holds Tryz.pinned (OpenSpec.ofChange fnFrameShareFetchRequestSpec)

/-- ITS FALSE NEIGHBOUR: 'it returns false'. Refute it at one input. -/
def fnFrameShareFetchRequestWrong : ChangeSpec := { name := "fnFrameShareFetchRequest", fn := fun _ => fun
  | [d1, d2, d3, d4] => { results := [.lit (.bool false)], args := [d1, d2, d3, d4] }
  | _ => none }
def FnFrameShareFetchRequestWrongFalsely : Prop := fnFrameShareFetchRequestRow.holds Tryz.pinned (OpenSpec.ofChange fnFrameShareFetchRequestWrong)

/-- 'laws.FnFrameSASLAuthenticateRequest': WHATEVER THE INPUT: true; the input reads as it did. -/
def fnFrameSASLAuthenticateRequestSpec : ChangeSpec := { name := "fnFrameSASLAuthenticateRequest", fn := fun _ => fun
  | [d1, d2, d3, d4] => { results := [.lit (.bool true)], args := [d1, d2, d3, d4] }
  | _ => none }
def fnFrameSASLAuthenticateRequestRow : OpenClaim := { program := "ytgjplodgdgaakaagreatdoor", sum := "e3c224851e094eb50383e238a1b241be4b521d7224888cb217e3762e8d638623", func := "pub-mailsack/laws.FnFrameSASLAuthenticateRequest", spec := "fnFrameSASLAuthenticateRequest", unfollowed := true, recurses := true, named := ["encoding/binary.BigEndian", "pub-mailsack/pub/kmsg/inner/kbin.ErrNotEnoughData"], loops := true, apart := false, laid := [("pub-mailsack/pub/kmsg/inner/kbin.ErrNotEnoughData", laid_pub_mailsack_pub_kmsg_inner_kbin_ErrNotEnoughData)] }
def FnFrameSASLAuthenticateRequestSaid : Prop := fnFrameSASLAuthenticateRequestRow.holds Tryz.pinned (OpenSpec.ofChange fnFrameSASLAuthenticateRequestSpec)

/-- ITS FALSE NEIGHBOUR: 'it returns false'. Refute it at one input. -/
def fnFrameSASLAuthenticateRequestWrong : ChangeSpec := { name := "fnFrameSASLAuthenticateRequest", fn := fun _ => fun
  | [d1, d2, d3, d4] => { results := [.lit (.bool false)], args := [d1, d2, d3, d4] }
  | _ => none }
def FnFrameSASLAuthenticateRequestWrongFalsely : Prop := fnFrameSASLAuthenticateRequestRow.holds Tryz.pinned (OpenSpec.ofChange fnFrameSASLAuthenticateRequestWrong)

/-- 'laws.FnFrameExpireDelegationTokenRequest': WHATEVER THE INPUT: true; the input reads as it did. -/
def fnFrameExpireDelegationTokenRequestSpec : ChangeSpec := { name := "fnFrameExpireDelegationTokenRequest", fn := fun _ => fun
  | [d1, d2, d3, d4] => { results := [.lit (.bool true)], args := [d1, d2, d3, d4] }
  | _ => none }
def fnFrameExpireDelegationTokenRequestRow : OpenClaim := { program := "ytgjplodgdgaakaagreatdoor", sum := "e3c224851e094eb50383e238a1b241be4b521d7224888cb217e3762e8d638623", func := "pub-mailsack/laws.FnFrameExpireDelegationTokenRequest", spec := "fnFrameExpireDelegationTokenRequest", unfollowed := true, recurses := true, named := ["encoding/binary.BigEndian", "pub-mailsack/pub/kmsg/inner/kbin.ErrNotEnoughData"], loops := true, apart := false, laid := [("pub-mailsack/pub/kmsg/inner/kbin.ErrNotEnoughData", laid_pub_mailsack_pub_kmsg_inner_kbin_ErrNotEnoughData)] }
def FnFrameExpireDelegationTokenRequestSaid : Prop := fnFrameExpireDelegationTokenRequestRow.holds Tryz.pinned (OpenSpec.ofChange fnFrameExpireDelegationTokenRequestSpec)

/-- ITS FALSE NEIGHBOUR: 'it returns false'. Refute it at one input. -/
def fnFrameExpireDelegationTokenRequestWrong : ChangeSpec := { name := "fnFrameExpireDelegationTokenRequest", fn := fun _ => fun
  | [d1, d2, d3, d4] => { results := [.lit (.bool false)], args := [d1, d2, d3, d4] }
  | _ => none }
def FnFrameExpireDelegationTokenRequestWrongFalsely : Prop := fnFrameExpireDelegationTokenRequestRow.holds Tryz.pinned (OpenSpec.ofChange fnFrameExpireDelegationTokenRequestWrong)

/-- 'laws.FnFrameAddOffsetsToTxnRequest': WHATEVER THE INPUT: true; the input reads as it did. -/
def fnFrameAddOffsetsToTxnRequestSpec : ChangeSpec := { name := "fnFrameAddOffsetsToTxnRequest", fn := fun _ => fun
  | [d1, d2, d3, d4] => { results := [.lit (.bool true)], args := [d1, d2, d3, d4] }
  | _ => none }
def fnFrameAddOffsetsToTxnRequestRow : OpenClaim := { program := "ytgjplodgdgaakaagreatdoor", sum := "e3c224851e094eb50383e238a1b241be4b521d7224888cb217e3762e8d638623", func := "pub-mailsack/laws.FnFrameAddOffsetsToTxnRequest", spec := "fnFrameAddOffsetsToTxnRequest", unfollowed := true, recurses := true, named := ["encoding/binary.BigEndian", "pub-mailsack/pub/kmsg/inner/kbin.ErrNotEnoughData"], loops := true, apart := false, laid := [("pub-mailsack/pub/kmsg/inner/kbin.ErrNotEnoughData", laid_pub_mailsack_pub_kmsg_inner_kbin_ErrNotEnoughData)] }
def FnFrameAddOffsetsToTxnRequestSaid : Prop := fnFrameAddOffsetsToTxnRequestRow.holds Tryz.pinned (OpenSpec.ofChange fnFrameAddOffsetsToTxnRequestSpec)

/-- ITS FALSE NEIGHBOUR: 'it returns false'. Refute it at one input. -/
def fnFrameAddOffsetsToTxnRequestWrong : ChangeSpec := { name := "fnFrameAddOffsetsToTxnRequest", fn := fun _ => fun
  | [d1, d2, d3, d4] => { results := [.lit (.bool false)], args := [d1, d2, d3, d4] }
  | _ => none }
def FnFrameAddOffsetsToTxnRequestWrongFalsely : Prop := fnFrameAddOffsetsToTxnRequestRow.holds Tryz.pinned (OpenSpec.ofChange fnFrameAddOffsetsToTxnRequestWrong)

/-- 'laws.FnFrameListTransactionsRequest': WHATEVER THE INPUT: true; the input reads as it did. -/
def fnFrameListTransactionsRequestSpec : ChangeSpec := { name := "fnFrameListTransactionsRequest", fn := fun _ => fun
  | [d1, d2, d3, d4] => { results := [.lit (.bool true)], args := [d1, d2, d3, d4] }
  | _ => none }
def fnFrameListTransactionsRequestRow : OpenClaim := { program := "ytgjplodgdgaakaagreatdoor", sum := "e3c224851e094eb50383e238a1b241be4b521d7224888cb217e3762e8d638623", func := "pub-mailsack/laws.FnFrameListTransactionsRequest", spec := "fnFrameListTransactionsRequest", unfollowed := true, recurses := true, named := ["encoding/binary.BigEndian", "pub-mailsack/pub/kmsg/inner/kbin.ErrNotEnoughData"], loops := true, apart := false, laid := [("pub-mailsack/pub/kmsg/inner/kbin.ErrNotEnoughData", laid_pub_mailsack_pub_kmsg_inner_kbin_ErrNotEnoughData)] }
def FnFrameListTransactionsRequestSaid : Prop := fnFrameListTransactionsRequestRow.holds Tryz.pinned (OpenSpec.ofChange fnFrameListTransactionsRequestSpec)

/-- ITS FALSE NEIGHBOUR: 'it returns false'. Refute it at one input. -/
def fnFrameListTransactionsRequestWrong : ChangeSpec := { name := "fnFrameListTransactionsRequest", fn := fun _ => fun
  | [d1, d2, d3, d4] => { results := [.lit (.bool false)], args := [d1, d2, d3, d4] }
  | _ => none }
def FnFrameListTransactionsRequestWrongFalsely : Prop := fnFrameListTransactionsRequestRow.holds Tryz.pinned (OpenSpec.ofChange fnFrameListTransactionsRequestWrong)

/- THE SECOND FORM. 'bulk': how many values and letters a reading holds, each counted each time it is reached (what is shared counts as often as it is met; a slice's spare places count too). A statement '..UptoSaid' is the law's where the arguments, and the package variables that the reading takes, are together of bulk at most 1048576: NARROWER than '..Said'. Prove '..Said' where nothing that the law and all that it calls make is longer than what came in: it says more and counts as full. Else prove '..UptoSaid'. A law counts once. -/
mutual
def uptoBulk {H : Type} : DataW H → Nat
  | .lit (.string bytes) => bytes.length + 1
  | .lit _ => 1
  | .nil => 1
  | .ptr d => uptoBulk d + 1
  | .slice elems spare => uptoBulkAll elems + uptoBulkAll spare + 1
  | .agg parts => uptoBulkAll parts + 1
  | .iface _ d => uptoBulk d + 1
  | .map entries => uptoBulkEntries entries + 1
  | .held _ => 1
def uptoBulkAll {H : Type} : List (DataW H) → Nat
  | [] => 0
  | d :: r => uptoBulk d + uptoBulkAll r
def uptoBulkEntries {H : Type} : List (Lit × DataW H) → Nat
  | [] => 0
  | x :: r => uptoBulkEntry x + uptoBulkEntries r
def uptoBulkEntry {H : Type} : Lit × DataW H → Nat
  | (.string bytes, d) => bytes.length + uptoBulk d + 1
  | (_, d) => uptoBulk d + 1
 end
def uptoSmall : (H : Type) → List (DataW H) → Bool := fun _ ds => decide (uptoBulkAll ds ≤ 1048576)
def OpenSpec.upto (s : _root_.Go.ChangeSpec) : _root_.Go.OpenSpec := { _root_.Go.OpenSpec.ofChange s with cond := some uptoSmall }

/-- 'laws.FnFrameBeginQuorumEpochRequest', WHERE WHAT IT READS IS OF BULK AT MOST 1048576: true; the input reads as it did. -/
def fnFrameBeginQuorumEpochRequestUptoRow : OpenClaim := { program := "ytgjplodgdgaakaagreatdoor", sum := "e3c224851e094eb50383e238a1b241be4b521d7224888cb217e3762e8d638623", func := "pub-mailsack/laws.FnFrameBeginQuorumEpochRequest", spec := "fnFrameBeginQuorumEpochRequest", unfollowed := true, recurses := true, named := ["encoding/binary.BigEndian", "pub-mailsack/pub/kmsg/inner/kbin.ErrNotEnoughData"], loops := true, apart := false, laid := [("pub-mailsack/pub/kmsg/inner/kbin.ErrNotEnoughData", laid_pub_mailsack_pub_kmsg_inner_kbin_ErrNotEnoughData)], narrowed := true }
def FnFrameBeginQuorumEpochRequestUptoSaid : Prop := fnFrameBeginQuorumEpochRequestUptoRow.holds Tryz.pinned (OpenSpec.upto fnFrameBeginQuorumEpochRequestSpec)

/-- 'laws.FnFrameEndQuorumEpochRequest', WHERE WHAT IT READS IS OF BULK AT MOST 1048576: true; the input reads as it did. -/
def fnFrameEndQuorumEpochRequestUptoRow : OpenClaim := { program := "ytgjplodgdgaakaagreatdoor", sum := "e3c224851e094eb50383e238a1b241be4b521d7224888cb217e3762e8d638623", func := "pub-mailsack/laws.FnFrameEndQuorumEpochRequest", spec := "fnFrameEndQuorumEpochRequest", unfollowed := true, recurses := true, named := ["encoding/binary.BigEndian", "pub-mailsack/pub/kmsg/inner/kbin.ErrNotEnoughData"], loops := true, apart := false, laid := [("pub-mailsack/pub/kmsg/inner/kbin.ErrNotEnoughData", laid_pub_mailsack_pub_kmsg_inner_kbin_ErrNotEnoughData)], narrowed := true }
def FnFrameEndQuorumEpochRequestUptoSaid : Prop := fnFrameEndQuorumEpochRequestUptoRow.holds Tryz.pinned (OpenSpec.upto fnFrameEndQuorumEpochRequestSpec)

/-- 'laws.FnFrameShareFetchRequest', WHERE WHAT IT READS IS OF BULK AT MOST 1048576: true; the input reads as it did. -/
def fnFrameShareFetchRequestUptoRow : OpenClaim := { program := "ytgjplodgdgaakaagreatdoor", sum := "e3c224851e094eb50383e238a1b241be4b521d7224888cb217e3762e8d638623", func := "pub-mailsack/laws.FnFrameShareFetchRequest", spec := "fnFrameShareFetchRequest", unfollowed := true, recurses := true, named := ["encoding/binary.BigEndian", "pub-mailsack/pub/kmsg/inner/kbin.ErrNotEnoughData"], loops := true, apart := false, laid := [("pub-mailsack/pub/kmsg/inner/kbin.ErrNotEnoughData", laid_pub_mailsack_pub_kmsg_inner_kbin_ErrNotEnoughData)], narrowed := true }
def FnFrameShareFetchRequestUptoSaid : Prop := fnFrameShareFetchRequestUptoRow.holds Tryz.pinned (OpenSpec.upto fnFrameShareFetchRequestSpec)

/-- 'laws.FnFrameSASLAuthenticateRequest', WHERE WHAT IT READS IS OF BULK AT MOST 1048576: true; the input reads as it did. -/
def fnFrameSASLAuthenticateRequestUptoRow : OpenClaim := { program := "ytgjplodgdgaakaagreatdoor", sum := "e3c224851e094eb50383e238a1b241be4b521d7224888cb217e3762e8d638623", func := "pub-mailsack/laws.FnFrameSASLAuthenticateRequest", spec := "fnFrameSASLAuthenticateRequest", unfollowed := true, recurses := true, named := ["encoding/binary.BigEndian", "pub-mailsack/pub/kmsg/inner/kbin.ErrNotEnoughData"], loops := true, apart := false, laid := [("pub-mailsack/pub/kmsg/inner/kbin.ErrNotEnoughData", laid_pub_mailsack_pub_kmsg_inner_kbin_ErrNotEnoughData)], narrowed := true }
def FnFrameSASLAuthenticateRequestUptoSaid : Prop := fnFrameSASLAuthenticateRequestUptoRow.holds Tryz.pinned (OpenSpec.upto fnFrameSASLAuthenticateRequestSpec)

/-- 'laws.FnFrameExpireDelegationTokenRequest', WHERE WHAT IT READS IS OF BULK AT MOST 1048576: true; the input reads as it did. -/
def fnFrameExpireDelegationTokenRequestUptoRow : OpenClaim := { program := "ytgjplodgdgaakaagreatdoor", sum := "e3c224851e094eb50383e238a1b241be4b521d7224888cb217e3762e8d638623", func := "pub-mailsack/laws.FnFrameExpireDelegationTokenRequest", spec := "fnFrameExpireDelegationTokenRequest", unfollowed := true, recurses := true, named := ["encoding/binary.BigEndian", "pub-mailsack/pub/kmsg/inner/kbin.ErrNotEnoughData"], loops := true, apart := false, laid := [("pub-mailsack/pub/kmsg/inner/kbin.ErrNotEnoughData", laid_pub_mailsack_pub_kmsg_inner_kbin_ErrNotEnoughData)], narrowed := true }
def FnFrameExpireDelegationTokenRequestUptoSaid : Prop := fnFrameExpireDelegationTokenRequestUptoRow.holds Tryz.pinned (OpenSpec.upto fnFrameExpireDelegationTokenRequestSpec)

/-- 'laws.FnFrameAddOffsetsToTxnRequest', WHERE WHAT IT READS IS OF BULK AT MOST 1048576: true; the input reads as it did. -/
def fnFrameAddOffsetsToTxnRequestUptoRow : OpenClaim := { program := "ytgjplodgdgaakaagreatdoor", sum := "e3c224851e094eb50383e238a1b241be4b521d7224888cb217e3762e8d638623", func := "pub-mailsack/laws.FnFrameAddOffsetsToTxnRequest", spec := "fnFrameAddOffsetsToTxnRequest", unfollowed := true, recurses := true, named := ["encoding/binary.BigEndian", "pub-mailsack/pub/kmsg/inner/kbin.ErrNotEnoughData"], loops := true, apart := false, laid := [("pub-mailsack/pub/kmsg/inner/kbin.ErrNotEnoughData", laid_pub_mailsack_pub_kmsg_inner_kbin_ErrNotEnoughData)], narrowed := true }
def FnFrameAddOffsetsToTxnRequestUptoSaid : Prop := fnFrameAddOffsetsToTxnRequestUptoRow.holds Tryz.pinned (OpenSpec.upto fnFrameAddOffsetsToTxnRequestSpec)

/-- 'laws.FnFrameListTransactionsRequest', WHERE WHAT IT READS IS OF BULK AT MOST 1048576: true; the input reads as it did. -/
def fnFrameListTransactionsRequestUptoRow : OpenClaim := { program := "ytgjplodgdgaakaagreatdoor", sum := "e3c224851e094eb50383e238a1b241be4b521d7224888cb217e3762e8d638623", func := "pub-mailsack/laws.FnFrameListTransactionsRequest", spec := "fnFrameListTransactionsRequest", unfollowed := true, recurses := true, named := ["encoding/binary.BigEndian", "pub-mailsack/pub/kmsg/inner/kbin.ErrNotEnoughData"], loops := true, apart := false, laid := [("pub-mailsack/pub/kmsg/inner/kbin.ErrNotEnoughData", laid_pub_mailsack_pub_kmsg_inner_kbin_ErrNotEnoughData)], narrowed := true }
def FnFrameListTransactionsRequestUptoSaid : Prop := fnFrameListTransactionsRequestUptoRow.holds Tryz.pinned (OpenSpec.upto fnFrameListTransactionsRequestSpec)

end Rows
end Go.Proofs.YtgjplodgdgaakaaGreatDoor
