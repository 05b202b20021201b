/-
  NARROWER THAN 'FOR EVERY INPUT', by the rows' own cells (each row's printed sentence says how): FnTellTxnMetadataValue: loops, laid · FnUnsafeGroupMetadataValue: laid · FnBehindProduceRequest: loops, laid · FnDefaultMetadataResponse: loops, laid.
  DERIVED. THE GIVEN ROWS OF THIS SEAT. 4 by the template 'for every input the law returns true; each argument reads behind the call as it read before'; 0 by the template 'total and deterministic' (their statements: YtlmnaffhadeolaaGreatDoorTotals.lean).
  GIVEN WITH THE SEED: the statements are not yours to turn. If you find one false, say at which input.
  Laid BY PROGRAM, IN A SANDBOX (cutbox-rows.mjs): the forced cells as the released guide's own fill.sh prints them over the translation f0621beeea6b315d… (all of the seat's roots in one cut). By AI agents, Wed Nov 11 2026. No macro, syntax, notation, axiom, sorry.
-/
import Derived.Test.YtlmnaffhadeolaaGreatDoorChecked
import GoSem.Claim
import GoSem.ClaimJoined
import GoSem.ClaimMapViews
import Derived.JoinedTies
import Derived.KernelRfl
namespace Go.Proofs.YtlmnaffhadeolaaGreatDoor
/- THE CELL 'sum', in the pinned program and in every row, IS THE sha256 OF THE DUMP (.gsa) THAT YtlmnaffhadeolaaGreatDoorProg.lean LOADS. Nothing in Lean hashes anything: it is a label: what it is worth is what the hold of that sum in a sandbox is worth. -/
noncomputable def Tryz.pinned : Pinned := { name := "ytlmnaffhadeolaagreatdoor", sum := "f0621beeea6b315d6d0741a16dd11cb2b4f7e4ddaac1774d10a03c6cfb865ac4", checked := Tryz.checked }
namespace Rows
def none {H : Type} : Left H := { results := [], args := [] }

/- WHAT THE LISTED PACKAGE-LEVEL VARIABLES READ AS WHEN THE CALL BEGINS. Each datum BY PROGRAM (the guide's laid-datum.mjs) off the statement by which the dump's own 'gosem.cut.vars' lays the variable. In a bare row this is a premise. The card (YtlmnaffhadeolaaGreatDoorCards.lean) ties it to the program's text. -/
def laid_pub_mailsack_pub_kmsg_inner_kbin_ErrNotEnoughData {H : Type} : DataW H := .iface "*errors.errorString" (.ptr (.agg [.lit (.string [114, 101, 115, 112, 111, 110, 115, 101, 32, 100, 105, 100, 32, 110, 111, 116, 32, 99, 111, 110, 116, 97, 105, 110, 32, 101, 110, 111, 117, 103, 104, 32, 100, 97, 116, 97, 32, 116, 111, 32, 98, 101, 32, 118, 97, 108, 105, 100])]))

/-- 'laws.FnTellTxnMetadataValue': WHATEVER THE INPUT: true; the input reads as it did. -/
def fnTellTxnMetadataValueSpec : ChangeSpec := { name := "fnTellTxnMetadataValue", fn := fun _ => fun
  | [d1, d2] => { results := [.lit (.bool true)], args := [d1, d2] }
  | _ => none }
def fnTellTxnMetadataValueRow : OpenClaim := { program := "ytlmnaffhadeolaagreatdoor", sum := "f0621beeea6b315d6d0741a16dd11cb2b4f7e4ddaac1774d10a03c6cfb865ac4", func := "pub-mailsack/laws.FnTellTxnMetadataValue", spec := "fnTellTxnMetadataValue", inPlace := ["internal/reflectlite.ValueOf", "internal/reflectlite.Swapper", "(internal/reflectlite.Value).Len"], unfollowed := true, recurses := true, named := ["encoding/binary.BigEndian", "pub-mailsack/pub/kmsg/inner/kbin.ErrNotEnoughData"], loops := true, apart := false, laid := [("pub-mailsack/pub/kmsg/inner/kbin.ErrNotEnoughData", laid_pub_mailsack_pub_kmsg_inner_kbin_ErrNotEnoughData)] }
def FnTellTxnMetadataValueSaid : Prop := fnTellTxnMetadataValueRow.holds Tryz.pinned (OpenSpec.ofChange fnTellTxnMetadataValueSpec)

/-- ITS FALSE NEIGHBOUR: 'it returns false'. Refute it at one input. -/
def fnTellTxnMetadataValueWrong : ChangeSpec := { name := "fnTellTxnMetadataValue", fn := fun _ => fun
  | [d1, d2] => { results := [.lit (.bool false)], args := [d1, d2] }
  | _ => none }
def FnTellTxnMetadataValueWrongFalsely : Prop := fnTellTxnMetadataValueRow.holds Tryz.pinned (OpenSpec.ofChange fnTellTxnMetadataValueWrong)

/-- 'laws.FnUnsafeGroupMetadataValue': WHATEVER THE INPUT: true; the input reads as it did. -/
def fnUnsafeGroupMetadataValueSpec : ChangeSpec := { name := "fnUnsafeGroupMetadataValue", fn := fun _ => fun
  | [d] => { results := [.lit (.bool true)], args := [d] }
  | _ => none }
def fnUnsafeGroupMetadataValueRow : OpenClaim := { program := "ytlmnaffhadeolaagreatdoor", sum := "f0621beeea6b315d6d0741a16dd11cb2b4f7e4ddaac1774d10a03c6cfb865ac4", func := "pub-mailsack/laws.FnUnsafeGroupMetadataValue", spec := "fnUnsafeGroupMetadataValue", inPlace := ["internal/reflectlite.ValueOf", "internal/reflectlite.Swapper", "(internal/reflectlite.Value).Len"], unfollowed := true, recurses := true, named := ["encoding/binary.BigEndian", "pub-mailsack/pub/kmsg/inner/kbin.ErrNotEnoughData"], apart := false, laid := [("pub-mailsack/pub/kmsg/inner/kbin.ErrNotEnoughData", laid_pub_mailsack_pub_kmsg_inner_kbin_ErrNotEnoughData)] }
def FnUnsafeGroupMetadataValueSaid : Prop := fnUnsafeGroupMetadataValueRow.holds Tryz.pinned (OpenSpec.ofChange fnUnsafeGroupMetadataValueSpec)

/-- ITS FALSE NEIGHBOUR: 'it returns false'. Refute it at one input. -/
def fnUnsafeGroupMetadataValueWrong : ChangeSpec := { name := "fnUnsafeGroupMetadataValue", fn := fun _ => fun
  | [d] => { results := [.lit (.bool false)], args := [d] }
  | _ => none }
def FnUnsafeGroupMetadataValueWrongFalsely : Prop := fnUnsafeGroupMetadataValueRow.holds Tryz.pinned (OpenSpec.ofChange fnUnsafeGroupMetadataValueWrong)

/-- 'laws.FnBehindProduceRequest': WHATEVER THE INPUT: true; the input reads as it did. -/
def fnBehindProduceRequestSpec : ChangeSpec := { name := "fnBehindProduceRequest", fn := fun _ => fun
  | [d1, d2, d3] => { results := [.lit (.bool true)], args := [d1, d2, d3] }
  | _ => none }
def fnBehindProduceRequestRow : OpenClaim := { program := "ytlmnaffhadeolaagreatdoor", sum := "f0621beeea6b315d6d0741a16dd11cb2b4f7e4ddaac1774d10a03c6cfb865ac4", func := "pub-mailsack/laws.FnBehindProduceRequest", spec := "fnBehindProduceRequest", inPlace := ["internal/reflectlite.ValueOf", "internal/reflectlite.Swapper", "(internal/reflectlite.Value).Len"], unfollowed := true, recurses := true, named := ["encoding/binary.BigEndian", "pub-mailsack/pub/kmsg/inner/kbin.ErrNotEnoughData"], loops := true, apart := false, laid := [("pub-mailsack/pub/kmsg/inner/kbin.ErrNotEnoughData", laid_pub_mailsack_pub_kmsg_inner_kbin_ErrNotEnoughData)] }
def FnBehindProduceRequestSaid : Prop := fnBehindProduceRequestRow.holds Tryz.pinned (OpenSpec.ofChange fnBehindProduceRequestSpec)

/-- ITS FALSE NEIGHBOUR: 'it returns false'. Refute it at one input. -/
def fnBehindProduceRequestWrong : ChangeSpec := { name := "fnBehindProduceRequest", fn := fun _ => fun
  | [d1, d2, d3] => { results := [.lit (.bool false)], args := [d1, d2, d3] }
  | _ => none }
def FnBehindProduceRequestWrongFalsely : Prop := fnBehindProduceRequestRow.holds Tryz.pinned (OpenSpec.ofChange fnBehindProduceRequestWrong)

/-- 'laws.FnDefaultMetadataResponse': WHATEVER THE INPUT: true; the input reads as it did. -/
def fnDefaultMetadataResponseSpec : ChangeSpec := { name := "fnDefaultMetadataResponse", fn := fun _ => fun
  | [d1, d2] => { results := [.lit (.bool true)], args := [d1, d2] }
  | _ => none }
def fnDefaultMetadataResponseRow : OpenClaim := { program := "ytlmnaffhadeolaagreatdoor", sum := "f0621beeea6b315d6d0741a16dd11cb2b4f7e4ddaac1774d10a03c6cfb865ac4", func := "pub-mailsack/laws.FnDefaultMetadataResponse", spec := "fnDefaultMetadataResponse", inPlace := ["internal/reflectlite.ValueOf", "internal/reflectlite.Swapper", "(internal/reflectlite.Value).Len"], unfollowed := true, recurses := true, named := ["encoding/binary.BigEndian", "pub-mailsack/pub/kmsg/inner/kbin.ErrNotEnoughData"], loops := true, apart := false, laid := [("pub-mailsack/pub/kmsg/inner/kbin.ErrNotEnoughData", laid_pub_mailsack_pub_kmsg_inner_kbin_ErrNotEnoughData)] }
def FnDefaultMetadataResponseSaid : Prop := fnDefaultMetadataResponseRow.holds Tryz.pinned (OpenSpec.ofChange fnDefaultMetadataResponseSpec)

/-- ITS FALSE NEIGHBOUR: 'it returns false'. Refute it at one input. -/
def fnDefaultMetadataResponseWrong : ChangeSpec := { name := "fnDefaultMetadataResponse", fn := fun _ => fun
  | [d1, d2] => { results := [.lit (.bool false)], args := [d1, d2] }
  | _ => none }
def FnDefaultMetadataResponseWrongFalsely : Prop := fnDefaultMetadataResponseRow.holds Tryz.pinned (OpenSpec.ofChange fnDefaultMetadataResponseWrong)

/- THE SECOND FORM. 'bulk': how many values and letters a reading holds, each counted each time it is reached (what is shared counts as often as it is met; a slice's spare places count too). A statement '..UptoSaid' is the law's where the arguments, and the package variables that the reading takes, are together of bulk at most 1048576: NARROWER than '..Said'. Prove '..Said' where nothing that the law and all that it calls make is longer than what came in: it says more and counts as full. Else prove '..UptoSaid'. A law counts once. -/
mutual
def uptoBulk {H : Type} : DataW H → Nat
  | .lit (.string bytes) => bytes.length + 1
  | .lit _ => 1
  | .nil => 1
  | .ptr d => uptoBulk d + 1
  | .slice elems spare => uptoBulkAll elems + uptoBulkAll spare + 1
  | .agg parts => uptoBulkAll parts + 1
  | .iface _ d => uptoBulk d + 1
  | .map entries => uptoBulkEntries entries + 1
  | .held _ => 1
def uptoBulkAll {H : Type} : List (DataW H) → Nat
  | [] => 0
  | d :: r => uptoBulk d + uptoBulkAll r
def uptoBulkEntries {H : Type} : List (Lit × DataW H) → Nat
  | [] => 0
  | x :: r => uptoBulkEntry x + uptoBulkEntries r
def uptoBulkEntry {H : Type} : Lit × DataW H → Nat
  | (.string bytes, d) => bytes.length + uptoBulk d + 1
  | (_, d) => uptoBulk d + 1
 end
def uptoSmall : (H : Type) → List (DataW H) → Bool := fun _ ds => decide (uptoBulkAll ds ≤ 1048576)
def OpenSpec.upto (s : _root_.Go.ChangeSpec) : _root_.Go.OpenSpec := { _root_.Go.OpenSpec.ofChange s with cond := some uptoSmall }

/-- 'laws.FnTellTxnMetadataValue', WHERE WHAT IT READS IS OF BULK AT MOST 1048576: true; the input reads as it did. -/
def fnTellTxnMetadataValueUptoRow : OpenClaim := { program := "ytlmnaffhadeolaagreatdoor", sum := "f0621beeea6b315d6d0741a16dd11cb2b4f7e4ddaac1774d10a03c6cfb865ac4", func := "pub-mailsack/laws.FnTellTxnMetadataValue", spec := "fnTellTxnMetadataValue", inPlace := ["internal/reflectlite.ValueOf", "internal/reflectlite.Swapper", "(internal/reflectlite.Value).Len"], unfollowed := true, recurses := true, named := ["encoding/binary.BigEndian", "pub-mailsack/pub/kmsg/inner/kbin.ErrNotEnoughData"], loops := true, apart := false, laid := [("pub-mailsack/pub/kmsg/inner/kbin.ErrNotEnoughData", laid_pub_mailsack_pub_kmsg_inner_kbin_ErrNotEnoughData)], narrowed := true }
def FnTellTxnMetadataValueUptoSaid : Prop := fnTellTxnMetadataValueUptoRow.holds Tryz.pinned (OpenSpec.upto fnTellTxnMetadataValueSpec)

/-- 'laws.FnUnsafeGroupMetadataValue', WHERE WHAT IT READS IS OF BULK AT MOST 1048576: true; the input reads as it did. -/
def fnUnsafeGroupMetadataValueUptoRow : OpenClaim := { program := "ytlmnaffhadeolaagreatdoor", sum := "f0621beeea6b315d6d0741a16dd11cb2b4f7e4ddaac1774d10a03c6cfb865ac4", func := "pub-mailsack/laws.FnUnsafeGroupMetadataValue", spec := "fnUnsafeGroupMetadataValue", inPlace := ["internal/reflectlite.ValueOf", "internal/reflectlite.Swapper", "(internal/reflectlite.Value).Len"], unfollowed := true, recurses := true, named := ["encoding/binary.BigEndian", "pub-mailsack/pub/kmsg/inner/kbin.ErrNotEnoughData"], apart := false, laid := [("pub-mailsack/pub/kmsg/inner/kbin.ErrNotEnoughData", laid_pub_mailsack_pub_kmsg_inner_kbin_ErrNotEnoughData)], narrowed := true }
def FnUnsafeGroupMetadataValueUptoSaid : Prop := fnUnsafeGroupMetadataValueUptoRow.holds Tryz.pinned (OpenSpec.upto fnUnsafeGroupMetadataValueSpec)

/-- 'laws.FnBehindProduceRequest', WHERE WHAT IT READS IS OF BULK AT MOST 1048576: true; the input reads as it did. -/
def fnBehindProduceRequestUptoRow : OpenClaim := { program := "ytlmnaffhadeolaagreatdoor", sum := "f0621beeea6b315d6d0741a16dd11cb2b4f7e4ddaac1774d10a03c6cfb865ac4", func := "pub-mailsack/laws.FnBehindProduceRequest", spec := "fnBehindProduceRequest", inPlace := ["internal/reflectlite.ValueOf", "internal/reflectlite.Swapper", "(internal/reflectlite.Value).Len"], unfollowed := true, recurses := true, named := ["encoding/binary.BigEndian", "pub-mailsack/pub/kmsg/inner/kbin.ErrNotEnoughData"], loops := true, apart := false, laid := [("pub-mailsack/pub/kmsg/inner/kbin.ErrNotEnoughData", laid_pub_mailsack_pub_kmsg_inner_kbin_ErrNotEnoughData)], narrowed := true }
def FnBehindProduceRequestUptoSaid : Prop := fnBehindProduceRequestUptoRow.holds Tryz.pinned (OpenSpec.upto fnBehindProduceRequestSpec)

/-- 'laws.FnDefaultMetadataResponse', WHERE WHAT IT READS IS OF BULK AT MOST 1048576: true; the input reads as it did. -/
def fnDefaultMetadataResponseUptoRow : OpenClaim := { program := "ytlmnaffhadeolaagreatdoor", sum := "f0621beeea6b315d6d0741a16dd11cb2b4f7e4ddaac1774d10a03c6cfb865ac4", func := "pub-mailsack/laws.FnDefaultMetadataResponse", spec := "fnDefaultMetadataResponse", inPlace := ["internal/reflectlite.ValueOf", "internal/reflectlite.Swapper", "(internal/reflectlite.Value).Len"], unfollowed := true, recurses := true, named := ["encoding/binary.BigEndian", "pub-mailsack/pub/kmsg/inner/kbin.ErrNotEnoughData"], loops := true, apart := false, laid := [("pub-mailsack/pub/kmsg/inner/kbin.ErrNotEnoughData", laid_pub_mailsack_pub_kmsg_inner_kbin_ErrNotEnoughData)], narrowed := true }
def FnDefaultMetadataResponseUptoSaid : Prop := fnDefaultMetadataResponseUptoRow.holds Tryz.pinned (OpenSpec.upto fnDefaultMetadataResponseSpec)

end Rows
end Go.Proofs.YtlmnaffhadeolaaGreatDoor
