/-
  DERIVED. GIVEN WITH THE SEED: THE CARDS: each row of YtmihblfjhoblmaaGreatDoorRows.lean that lists a variable, with what it lists TIED to the program's text (the seventh form; the later family's looks); each row that meets fmt, with fmt's text TOLD by the authors' own Lean function (tested against real Go, not proved from fmt's source: count such statements apart). THE CARD IS WHAT COUNTS. Prove the row's statement (the work); the ties are given (YtmihblfjhoblmaaGreatDoorTie.lean); close each card by the builder's one call (the guide's Derived/Test/ToyasCard.lean, 'card_holds'). Laid BY PROGRAM, IN A SANDBOX (cutbox-door.mjs). By AI agents, Wed Nov 11 2026. No macro, syntax, notation, axiom, sorry.
-/
import Derived.Test.YtmihblfjhoblmaaGreatDoorRows
import GoSem.ClaimSeven
namespace Go.Proofs.YtmihblfjhoblmaaGreatDoor
namespace Rows

/-- THE TIED CARD OF 'laws.FnFrameCreateTopicsRequest'. -/
def fnFrameCreateTopicsRequestCard : Claim7 := { stood := { row := fnFrameCreateTopicsRequestRow, standIns := [], harness := (true, "98487678909aa2058ba797c66b9a620cb6c645f78653e8cdc239c0107aca970e"), looks := false }, kinds := [], alts := [], laidByText := true, laidKinds := [.sentinel], laidTests := true, laidLooks := .later }
def FnFrameCreateTopicsRequestCardSaid : Prop := Claim7.holds Tryz.pinned (.plain (OpenSpec.ofChange fnFrameCreateTopicsRequestSpec)) fnFrameCreateTopicsRequestCard

/-- THE SECOND FORM's CARD OF 'laws.FnFrameCreateTopicsRequest'. -/
def fnFrameCreateTopicsRequestUptoCard : Claim7 := { stood := { row := fnFrameCreateTopicsRequestUptoRow, standIns := [], harness := (true, "98487678909aa2058ba797c66b9a620cb6c645f78653e8cdc239c0107aca970e"), looks := false }, kinds := [], alts := [], laidByText := true, laidKinds := [.sentinel], laidTests := true, laidLooks := .later }
def FnFrameCreateTopicsRequestUptoCardSaid : Prop := Claim7.holds Tryz.pinned (.plain (OpenSpec.upto fnFrameCreateTopicsRequestSpec)) fnFrameCreateTopicsRequestUptoCard
end Rows
end Go.Proofs.YtmihblfjhoblmaaGreatDoor
