/-
  NARROWER THAN 'FOR EVERY INPUT', by the rows' own cells (each row's printed sentence says how): FnMakeControlRecordKey: loops · FnMakeDeleteGroupsRequest: loops · FnMakeCreateACLsResponse: loops.
  DERIVED. THE GIVEN ROWS OF THIS SEAT. 3 by the template 'for every input the law returns true; each argument reads behind the call as it read before'; 0 by the template 'total and deterministic' (their statements: YtaoecdeljfdmeaaTotals.lean).
  GIVEN WITH THE SEED: the statements are not yours to turn. If you find one false, say at which input.
  Laid BY PROGRAM, IN A SANDBOX (cutbox-rows.mjs): the forced cells as the released guide's own fill.sh prints them over the translation c422612eac539a3f… (all of the seat's roots in one cut). By AI agents, Wed Nov 11 2026. No macro, syntax, notation, axiom, sorry.
-/
import Derived.Test.YtaoecdeljfdmeaaChecked
import GoSem.Claim
import GoSem.ClaimJoined
import GoSem.ClaimMapViews
import Derived.JoinedTies
import Derived.KernelRfl
namespace Go.Proofs.Ytaoecdeljfdmeaa
/- THE CELL 'sum', in the pinned program and in every row, IS THE sha256 OF THE DUMP (.gsa) THAT YtaoecdeljfdmeaaProg.lean LOADS. Nothing in Lean hashes anything: it is a label: what it is worth is what the hold of that sum in a sandbox is worth. -/
noncomputable def Try.pinned : Pinned := { name := "ytaoecdeljfdmeaa", sum := "c422612eac539a3fdb7d0934f0718310115c46084e06d697ad34700e6e4a0f3a", checked := Try.checked }
namespace Rows
def none {H : Type} : Left H := { results := [], args := [] }

/-- 'laws.FnMakeControlRecordKey': WHATEVER THE INPUT: true; the input reads as it did. -/
def fnMakeControlRecordKeySpec : ChangeSpec := { name := "fnMakeControlRecordKey", fn := fun _ => fun
  | [d1, d2] => { results := [.lit (.bool true)], args := [d1, d2] }
  | _ => none }
def fnMakeControlRecordKeyRow : OpenClaim := { program := "ytaoecdeljfdmeaa", sum := "c422612eac539a3fdb7d0934f0718310115c46084e06d697ad34700e6e4a0f3a", func := "pub-mailsack/laws.FnMakeControlRecordKey", spec := "fnMakeControlRecordKey", recurses := true, loops := true, apart := false }
def FnMakeControlRecordKeySaid : Prop := fnMakeControlRecordKeyRow.holds Try.pinned (OpenSpec.ofChange fnMakeControlRecordKeySpec)

/-- ITS FALSE NEIGHBOUR: 'it returns false'. Refute it at one input. -/
def fnMakeControlRecordKeyWrong : ChangeSpec := { name := "fnMakeControlRecordKey", fn := fun _ => fun
  | [d1, d2] => { results := [.lit (.bool false)], args := [d1, d2] }
  | _ => none }
def FnMakeControlRecordKeyWrongFalsely : Prop := fnMakeControlRecordKeyRow.holds Try.pinned (OpenSpec.ofChange fnMakeControlRecordKeyWrong)

/-- 'laws.FnMakeDeleteGroupsRequest': WHATEVER THE INPUT: true; the input reads as it did. -/
def fnMakeDeleteGroupsRequestSpec : ChangeSpec := { name := "fnMakeDeleteGroupsRequest", fn := fun _ => fun
  | [d1, d2] => { results := [.lit (.bool true)], args := [d1, d2] }
  | _ => none }
def fnMakeDeleteGroupsRequestRow : OpenClaim := { program := "ytaoecdeljfdmeaa", sum := "c422612eac539a3fdb7d0934f0718310115c46084e06d697ad34700e6e4a0f3a", func := "pub-mailsack/laws.FnMakeDeleteGroupsRequest", spec := "fnMakeDeleteGroupsRequest", inPlace := ["internal/reflectlite.ValueOf", "internal/reflectlite.Swapper", "(internal/reflectlite.Value).Len"], unfollowed := true, recurses := true, loops := true, apart := false }
def FnMakeDeleteGroupsRequestSaid : Prop := fnMakeDeleteGroupsRequestRow.holds Try.pinned (OpenSpec.ofChange fnMakeDeleteGroupsRequestSpec)

/-- ITS FALSE NEIGHBOUR: 'it returns false'. Refute it at one input. -/
def fnMakeDeleteGroupsRequestWrong : ChangeSpec := { name := "fnMakeDeleteGroupsRequest", fn := fun _ => fun
  | [d1, d2] => { results := [.lit (.bool false)], args := [d1, d2] }
  | _ => none }
def FnMakeDeleteGroupsRequestWrongFalsely : Prop := fnMakeDeleteGroupsRequestRow.holds Try.pinned (OpenSpec.ofChange fnMakeDeleteGroupsRequestWrong)

/-- 'laws.FnMakeCreateACLsResponse': WHATEVER THE INPUT: true; the input reads as it did. -/
def fnMakeCreateACLsResponseSpec : ChangeSpec := { name := "fnMakeCreateACLsResponse", fn := fun _ => fun
  | [d1, d2] => { results := [.lit (.bool true)], args := [d1, d2] }
  | _ => none }
def fnMakeCreateACLsResponseRow : OpenClaim := { program := "ytaoecdeljfdmeaa", sum := "c422612eac539a3fdb7d0934f0718310115c46084e06d697ad34700e6e4a0f3a", func := "pub-mailsack/laws.FnMakeCreateACLsResponse", spec := "fnMakeCreateACLsResponse", inPlace := ["internal/reflectlite.ValueOf", "internal/reflectlite.Swapper", "(internal/reflectlite.Value).Len"], unfollowed := true, recurses := true, loops := true, apart := false }
def FnMakeCreateACLsResponseSaid : Prop := fnMakeCreateACLsResponseRow.holds Try.pinned (OpenSpec.ofChange fnMakeCreateACLsResponseSpec)

/-- ITS FALSE NEIGHBOUR: 'it returns false'. Refute it at one input. -/
def fnMakeCreateACLsResponseWrong : ChangeSpec := { name := "fnMakeCreateACLsResponse", fn := fun _ => fun
  | [d1, d2] => { results := [.lit (.bool false)], args := [d1, d2] }
  | _ => none }
def FnMakeCreateACLsResponseWrongFalsely : Prop := fnMakeCreateACLsResponseRow.holds Try.pinned (OpenSpec.ofChange fnMakeCreateACLsResponseWrong)

/- THE SECOND FORM. 'bulk': how many values and letters a reading holds, each counted each time it is reached (what is shared counts as often as it is met; a slice's spare places count too). A statement '..UptoSaid' is the law's where the arguments, and the package variables that the reading takes, are together of bulk at most 1048576: NARROWER than '..Said'. Prove '..Said' where nothing that the law and all that it calls make is longer than what came in: it says more and counts as full. Else prove '..UptoSaid'. A law counts once. -/
mutual
def uptoBulk {H : Type} : DataW H → Nat
  | .lit (.string bytes) => bytes.length + 1
  | .lit _ => 1
  | .nil => 1
  | .ptr d => uptoBulk d + 1
  | .slice elems spare => uptoBulkAll elems + uptoBulkAll spare + 1
  | .agg parts => uptoBulkAll parts + 1
  | .iface _ d => uptoBulk d + 1
  | .map entries => uptoBulkEntries entries + 1
  | .held _ => 1
def uptoBulkAll {H : Type} : List (DataW H) → Nat
  | [] => 0
  | d :: r => uptoBulk d + uptoBulkAll r
def uptoBulkEntries {H : Type} : List (Lit × DataW H) → Nat
  | [] => 0
  | x :: r => uptoBulkEntry x + uptoBulkEntries r
def uptoBulkEntry {H : Type} : Lit × DataW H → Nat
  | (.string bytes, d) => bytes.length + uptoBulk d + 1
  | (_, d) => uptoBulk d + 1
 end
def uptoSmall : (H : Type) → List (DataW H) → Bool := fun _ ds => decide (uptoBulkAll ds ≤ 1048576)
def OpenSpec.upto (s : _root_.Go.ChangeSpec) : _root_.Go.OpenSpec := { _root_.Go.OpenSpec.ofChange s with cond := some uptoSmall }

/-- 'laws.FnMakeControlRecordKey', WHERE WHAT IT READS IS OF BULK AT MOST 1048576: true; the input reads as it did. -/
def fnMakeControlRecordKeyUptoRow : OpenClaim := { program := "ytaoecdeljfdmeaa", sum := "c422612eac539a3fdb7d0934f0718310115c46084e06d697ad34700e6e4a0f3a", func := "pub-mailsack/laws.FnMakeControlRecordKey", spec := "fnMakeControlRecordKey", recurses := true, loops := true, apart := false, narrowed := true }
def FnMakeControlRecordKeyUptoSaid : Prop := fnMakeControlRecordKeyUptoRow.holds Try.pinned (OpenSpec.upto fnMakeControlRecordKeySpec)

/-- 'laws.FnMakeDeleteGroupsRequest', WHERE WHAT IT READS IS OF BULK AT MOST 1048576: true; the input reads as it did. -/
def fnMakeDeleteGroupsRequestUptoRow : OpenClaim := { program := "ytaoecdeljfdmeaa", sum := "c422612eac539a3fdb7d0934f0718310115c46084e06d697ad34700e6e4a0f3a", func := "pub-mailsack/laws.FnMakeDeleteGroupsRequest", spec := "fnMakeDeleteGroupsRequest", inPlace := ["internal/reflectlite.ValueOf", "internal/reflectlite.Swapper", "(internal/reflectlite.Value).Len"], unfollowed := true, recurses := true, loops := true, apart := false, narrowed := true }
def FnMakeDeleteGroupsRequestUptoSaid : Prop := fnMakeDeleteGroupsRequestUptoRow.holds Try.pinned (OpenSpec.upto fnMakeDeleteGroupsRequestSpec)

/-- 'laws.FnMakeCreateACLsResponse', WHERE WHAT IT READS IS OF BULK AT MOST 1048576: true; the input reads as it did. -/
def fnMakeCreateACLsResponseUptoRow : OpenClaim := { program := "ytaoecdeljfdmeaa", sum := "c422612eac539a3fdb7d0934f0718310115c46084e06d697ad34700e6e4a0f3a", func := "pub-mailsack/laws.FnMakeCreateACLsResponse", spec := "fnMakeCreateACLsResponse", inPlace := ["internal/reflectlite.ValueOf", "internal/reflectlite.Swapper", "(internal/reflectlite.Value).Len"], unfollowed := true, recurses := true, loops := true, apart := false, narrowed := true }
def FnMakeCreateACLsResponseUptoSaid : Prop := fnMakeCreateACLsResponseUptoRow.holds Try.pinned (OpenSpec.upto fnMakeCreateACLsResponseSpec)

end Rows
end Go.Proofs.Ytaoecdeljfdmeaa
