/-
  DERIVED. GIVEN WITH THE SEED: THE CARDS: each row of YtcgmlmaegggkcaaDoorRows.lean that lists a variable, with what it lists TIED to the program's text (the seventh form; the later family's looks); each row that meets fmt, with fmt's text TOLD by the authors' own Lean function (tested against real Go, not proved from fmt's source: count such statements apart). THE CARD IS WHAT COUNTS. Prove the row's statement (the work); the ties are given (YtcgmlmaegggkcaaDoorTie.lean); close each card by the builder's one call (the guide's Derived/Test/ToyasCard.lean, 'card_holds'). Laid BY PROGRAM, IN A SANDBOX (cutbox-door.mjs). By AI agents, Wed Nov 11 2026. No macro, syntax, notation, axiom, sorry.
-/
import Derived.Test.YtcgmlmaegggkcaaDoorRows
import GoSem.ClaimSeven
namespace Go.Proofs.YtcgmlmaegggkcaaDoor
namespace Rows

/-- THE TIED CARD OF 'laws.FnUnsafeUpdateRaftVoterResponse'. -/
def fnUnsafeUpdateRaftVoterResponseCard : Claim7 := { stood := { row := fnUnsafeUpdateRaftVoterResponseRow, standIns := [], harness := (true, "c5fde97e2113011d0e1be037518f4a578c46cc8a8600c42446fb058bb9e4b4af"), looks := false }, kinds := [], alts := [], laidByText := true, laidKinds := [.sentinel], laidTests := true, laidLooks := .later }
def FnUnsafeUpdateRaftVoterResponseCardSaid : Prop := Claim7.holds Tryd.pinned (.plain (OpenSpec.ofChange fnUnsafeUpdateRaftVoterResponseSpec)) fnUnsafeUpdateRaftVoterResponseCard

/-- THE TIED CARD OF 'laws.FnUnsafeDescribeConfigsResponse'. -/
def fnUnsafeDescribeConfigsResponseCard : Claim7 := { stood := { row := fnUnsafeDescribeConfigsResponseRow, standIns := [], harness := (true, "c5fde97e2113011d0e1be037518f4a578c46cc8a8600c42446fb058bb9e4b4af"), looks := false }, kinds := [], alts := [], laidByText := true, laidKinds := [.sentinel], laidTests := true, laidLooks := .later }
def FnUnsafeDescribeConfigsResponseCardSaid : Prop := Claim7.holds Tryd.pinned (.plain (OpenSpec.ofChange fnUnsafeDescribeConfigsResponseSpec)) fnUnsafeDescribeConfigsResponseCard

/-- THE SECOND FORM's CARD OF 'laws.FnUnsafeUpdateRaftVoterResponse'. -/
def fnUnsafeUpdateRaftVoterResponseUptoCard : Claim7 := { stood := { row := fnUnsafeUpdateRaftVoterResponseUptoRow, standIns := [], harness := (true, "c5fde97e2113011d0e1be037518f4a578c46cc8a8600c42446fb058bb9e4b4af"), looks := false }, kinds := [], alts := [], laidByText := true, laidKinds := [.sentinel], laidTests := true, laidLooks := .later }
def FnUnsafeUpdateRaftVoterResponseUptoCardSaid : Prop := Claim7.holds Tryd.pinned (.plain (OpenSpec.upto fnUnsafeUpdateRaftVoterResponseSpec)) fnUnsafeUpdateRaftVoterResponseUptoCard

/-- THE SECOND FORM's CARD OF 'laws.FnUnsafeDescribeConfigsResponse'. -/
def fnUnsafeDescribeConfigsResponseUptoCard : Claim7 := { stood := { row := fnUnsafeDescribeConfigsResponseUptoRow, standIns := [], harness := (true, "c5fde97e2113011d0e1be037518f4a578c46cc8a8600c42446fb058bb9e4b4af"), looks := false }, kinds := [], alts := [], laidByText := true, laidKinds := [.sentinel], laidTests := true, laidLooks := .later }
def FnUnsafeDescribeConfigsResponseUptoCardSaid : Prop := Claim7.holds Tryd.pinned (.plain (OpenSpec.upto fnUnsafeDescribeConfigsResponseSpec)) fnUnsafeDescribeConfigsResponseUptoCard
end Rows
end Go.Proofs.YtcgmlmaegggkcaaDoor
