/-
  DERIVED. GIVEN WITH THE SEED: THE CARDS: each row of YtnpgjpppelccaaaDoorRows.lean that lists a variable, with what it lists TIED to the program's text (the seventh form; the later family's looks); each row that meets fmt, with fmt's text TOLD by the authors' own Lean function (tested against real Go, not proved from fmt's source: count such statements apart). THE CARD IS WHAT COUNTS. Prove the row's statement (the work); the ties are given (YtnpgjpppelccaaaDoorTie.lean); close each card by the builder's one call (the guide's Derived/Test/ToyasCard.lean, 'card_holds'). Laid BY PROGRAM, IN A SANDBOX (cutbox-door.mjs). By AI agents, Wed Nov 11 2026. No macro, syntax, notation, axiom, sorry.
-/
import Derived.Test.YtnpgjpppelccaaaDoorRows
import GoSem.ClaimSeven
namespace Go.Proofs.YtnpgjpppelccaaaDoor
namespace Rows

/-- THE TIED CARD OF 'laws.FnUnsafeWriteShareGroupStateRequest'. -/
def fnUnsafeWriteShareGroupStateRequestCard : Claim7 := { stood := { row := fnUnsafeWriteShareGroupStateRequestRow, standIns := [], harness := (true, "79d6e603d97aaa37ae0f87b16ff0fac96819bac2b5ddfc1e754190753265bf8d"), looks := false }, kinds := [], alts := [], laidByText := true, laidKinds := [.sentinel], laidTests := true, laidLooks := .later }
def FnUnsafeWriteShareGroupStateRequestCardSaid : Prop := Claim7.holds Tryd.pinned (.plain (OpenSpec.ofChange fnUnsafeWriteShareGroupStateRequestSpec)) fnUnsafeWriteShareGroupStateRequestCard

/-- THE SECOND FORM's CARD OF 'laws.FnUnsafeWriteShareGroupStateRequest'. -/
def fnUnsafeWriteShareGroupStateRequestUptoCard : Claim7 := { stood := { row := fnUnsafeWriteShareGroupStateRequestUptoRow, standIns := [], harness := (true, "79d6e603d97aaa37ae0f87b16ff0fac96819bac2b5ddfc1e754190753265bf8d"), looks := false }, kinds := [], alts := [], laidByText := true, laidKinds := [.sentinel], laidTests := true, laidLooks := .later }
def FnUnsafeWriteShareGroupStateRequestUptoCardSaid : Prop := Claim7.holds Tryd.pinned (.plain (OpenSpec.upto fnUnsafeWriteShareGroupStateRequestSpec)) fnUnsafeWriteShareGroupStateRequestUptoCard
end Rows
end Go.Proofs.YtnpgjpppelccaaaDoor
