/-
  DERIVED. GIVEN WITH THE SEED: THE CARDS: each row of YtgpnpfiafcakfaaDoorRows.lean that lists a variable, with what it lists TIED to the program's text (the seventh form; the later family's looks); each row that meets fmt, with fmt's text TOLD by the authors' own Lean function (tested against real Go, not proved from fmt's source: count such statements apart). THE CARD IS WHAT COUNTS. Prove the row's statement (the work); the ties are given (YtgpnpfiafcakfaaDoorTie.lean); close each card by the builder's one call (the guide's Derived/Test/ToyasCard.lean, 'card_holds'). Laid BY PROGRAM, IN A SANDBOX (cutbox-door.mjs). By AI agents, Wed Nov 11 2026. No macro, syntax, notation, axiom, sorry.
-/
import Derived.Test.YtgpnpfiafcakfaaDoorRows
import GoSem.ClaimSeven
namespace Go.Proofs.YtgpnpfiafcakfaaDoor
namespace Rows

/-- THE TIED CARD OF 'laws.FnUnsafeDescribeConfigsResponse'. -/
def fnUnsafeDescribeConfigsResponseCard : Claim7 := { stood := { row := fnUnsafeDescribeConfigsResponseRow, standIns := [], harness := (true, "bfdb6af65842d9d72ba2da7933ca49cfe80daf84bda7fd29925855b5a8e68643"), looks := false }, kinds := [], alts := [], laidByText := true, laidKinds := [.sentinel], laidTests := true, laidLooks := .later }
def FnUnsafeDescribeConfigsResponseCardSaid : Prop := Claim7.holds Tryd.pinned (.plain (OpenSpec.ofChange fnUnsafeDescribeConfigsResponseSpec)) fnUnsafeDescribeConfigsResponseCard

/-- THE SECOND FORM's CARD OF 'laws.FnUnsafeDescribeConfigsResponse'. -/
def fnUnsafeDescribeConfigsResponseUptoCard : Claim7 := { stood := { row := fnUnsafeDescribeConfigsResponseUptoRow, standIns := [], harness := (true, "bfdb6af65842d9d72ba2da7933ca49cfe80daf84bda7fd29925855b5a8e68643"), looks := false }, kinds := [], alts := [], laidByText := true, laidKinds := [.sentinel], laidTests := true, laidLooks := .later }
def FnUnsafeDescribeConfigsResponseUptoCardSaid : Prop := Claim7.holds Tryd.pinned (.plain (OpenSpec.upto fnUnsafeDescribeConfigsResponseSpec)) fnUnsafeDescribeConfigsResponseUptoCard
end Rows
end Go.Proofs.YtgpnpfiafcakfaaDoor
