/-
  DERIVED. GIVEN WITH THE SEED: THE CARDS: each row of YbulkbekeDoorRows.lean that lists a variable, with what it lists TIED to the program's text (the seventh form; the later family's looks); each row that meets fmt, with fmt's text TOLD by the authors' own Lean function (tested against real Go, not proved from fmt's source: count such statements apart). THE CARD IS WHAT COUNTS. Prove the row's statement (the work); the ties are given (YbulkbekeDoorTie.lean); close each card by the builder's one call (the guide's Derived/Test/ToyasCard.lean, 'card_holds'). Laid BY PROGRAM, IN A SANDBOX (cutbox-door.mjs). By AI agents, Wed Nov 11 2026. No macro, syntax, notation, axiom, sorry.
-/
import Derived.Test.YbulkbekeDoorRows
import GoSem.ClaimSeven
namespace Go.Proofs.YbulkbekeDoor
namespace Rows

/-- THE TIED CARD OF 'demesne.LawS2773BTable'. -/
def lawS2773BTableCard : Claim7 := { stood := { row := lawS2773BTableRow, standIns := [], harness := (true, "2356e120756828b8a53bc6e8a9702210c1a0810d5858b3665f14f266b1570ec1"), looks := false }, kinds := [], alts := [], laidByText := true, laidKinds := [.mapped], laidTests := true, laidLooks := .later }
def LawS2773BTableCardSaid : Prop := Claim7.holds Ybad.pinned (.plain (OpenSpec.ofChange lawS2773BTableSpec)) lawS2773BTableCard

/-- THE TIED CARD OF 'demesne.LawS2773BReceiver'. -/
def lawS2773BReceiverCard : Claim7 := { stood := { row := lawS2773BReceiverRow, standIns := [], harness := (true, "2356e120756828b8a53bc6e8a9702210c1a0810d5858b3665f14f266b1570ec1"), looks := false }, kinds := [], alts := [], laidByText := true, laidKinds := [.mapped], laidTests := true, laidLooks := .later }
def LawS2773BReceiverCardSaid : Prop := Claim7.holds Ybad.pinned (.plain (OpenSpec.ofChange lawS2773BReceiverSpec)) lawS2773BReceiverCard
end Rows
end Go.Proofs.YbulkbekeDoor
