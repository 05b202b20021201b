/-
  DERIVED. GIVEN WITH THE SEED: THE CARDS: each row of YtgblofcjkgbojaaDoorRows.lean that lists a variable, with what it lists TIED to the program's text (the seventh form; the later family's looks); each row that meets fmt, with fmt's text TOLD by the authors' own Lean function (tested against real Go, not proved from fmt's source: count such statements apart). THE CARD IS WHAT COUNTS. Prove the row's statement (the work); the ties are given (YtgblofcjkgbojaaDoorTie.lean); close each card by the builder's one call (the guide's Derived/Test/ToyasCard.lean, 'card_holds'). Laid BY PROGRAM, IN A SANDBOX (cutbox-door.mjs). By AI agents, Wed Nov 11 2026. No macro, syntax, notation, axiom, sorry.
-/
import Derived.Test.YtgblofcjkgbojaaDoorRows
import GoSem.ClaimSeven
namespace Go.Proofs.YtgblofcjkgbojaaDoor
namespace Rows

/-- THE TIED CARD OF 'laws.FnBehindOffsetDeleteRequest'. -/
def fnBehindOffsetDeleteRequestCard : Claim7 := { stood := { row := fnBehindOffsetDeleteRequestRow, standIns := [], harness := (true, "252c71df929817d6b479804d8f75f83de0fe952f532f69e0d5bd2e49c2ebe5fe"), looks := false }, kinds := [], alts := [], laidByText := true, laidKinds := [.sentinel], laidTests := true, laidLooks := .later }
def FnBehindOffsetDeleteRequestCardSaid : Prop := Claim7.holds Tryd.pinned (.plain (OpenSpec.ofChange fnBehindOffsetDeleteRequestSpec)) fnBehindOffsetDeleteRequestCard

/-- THE SECOND FORM's CARD OF 'laws.FnBehindOffsetDeleteRequest'. -/
def fnBehindOffsetDeleteRequestUptoCard : Claim7 := { stood := { row := fnBehindOffsetDeleteRequestUptoRow, standIns := [], harness := (true, "252c71df929817d6b479804d8f75f83de0fe952f532f69e0d5bd2e49c2ebe5fe"), looks := false }, kinds := [], alts := [], laidByText := true, laidKinds := [.sentinel], laidTests := true, laidLooks := .later }
def FnBehindOffsetDeleteRequestUptoCardSaid : Prop := Claim7.holds Tryd.pinned (.plain (OpenSpec.upto fnBehindOffsetDeleteRequestSpec)) fnBehindOffsetDeleteRequestUptoCard
end Rows
end Go.Proofs.YtgblofcjkgbojaaDoor
