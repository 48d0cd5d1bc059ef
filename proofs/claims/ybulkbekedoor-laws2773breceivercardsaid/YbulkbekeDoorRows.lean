/-
  NARROWER THAN 'FOR EVERY INPUT', by the rows' own cells (each row's printed sentence says how): LawS2773BTable: maps, laid · LawS2773BReceiver: maps, laid.
  DERIVED. THE GIVEN ROWS OF THIS SEAT. 2 by the template 'for every input the law returns true; each argument reads behind the call as it read before'; 0 by the template 'total and deterministic' (their statements: YbulkbekeDoorTotals.lean).
  GIVEN WITH THE SEED: the statements are not yours to turn. If you find one false, say at which input.
  Laid BY PROGRAM, IN A SANDBOX (cutbox-rows.mjs): the forced cells as the released guide's own fill.sh prints them over the translation be2e2fa27d5e3498… (all of the seat's roots in one cut). By AI agents, Wed Nov 11 2026. No macro, syntax, notation, axiom, sorry.
-/
import Derived.Test.YbulkbekeDoorChecked
import GoSem.Claim
import GoSem.ClaimJoined
import GoSem.ClaimMapViews
import Derived.JoinedTies
import Derived.KernelRfl
namespace Go.Proofs.YbulkbekeDoor
/- THE CELL 'sum', in the pinned program and in every row, IS THE sha256 OF THE DUMP (.gsa) THAT YbulkbekeDoorProg.lean LOADS. Nothing in Lean hashes anything: it is a label: what it is worth is what the hold of that sum in a sandbox is worth. -/
noncomputable def Ybad.pinned : Pinned := { name := "ybulkbekedoor", sum := "be2e2fa27d5e3498745a93b79b934a3a4bac2e5cfb6218d05a88c8317c8e76d1", checked := Ybad.checked }
namespace Rows
def none {H : Type} : Left H := { results := [], args := [] }

/- WHAT THE LISTED PACKAGE-LEVEL VARIABLES READ AS WHEN THE CALL BEGINS. Each datum BY PROGRAM (the guide's laid-datum.mjs) off the statement by which the dump's own 'gosem.cut.vars' lays the variable. In a bare row this is a premise. The card (YbulkbekeDoorCards.lean) ties it to the program's text. -/
def laid_example_com_demesne_demesne_operators {H : Type} : DataW H := .map [(.int .i64 5, .lit (.int .i8 0)), (.int .i64 6, .lit (.int .i8 1)), (.int .i64 7, .lit (.int .i8 2)), (.int .i64 8, .lit (.int .i8 3)), (.int .i64 9, .lit (.int .i8 4)), (.int .i64 10, .lit (.int .i8 5))]

/-- 'demesne.LawS2773BTable': WHATEVER THE INPUT: true; the input reads as it did. -/
def lawS2773BTableSpec : ChangeSpec := { name := "lawS2773BTable", vars := ["example.com/demesne/demesne.operators"], fn := fun _ => fun
  | [d1, d2, d3, d4, g1] => { results := [.lit (.bool true)], args := [d1, d2, d3, d4], vars := [g1] }
  | _ => none }
def lawS2773BTableRow : OpenClaim := { program := "ybulkbekedoor", sum := "be2e2fa27d5e3498745a93b79b934a3a4bac2e5cfb6218d05a88c8317c8e76d1", func := "example.com/demesne/demesne.LawS2773BTable", spec := "lawS2773BTable", named := ["example.com/demesne/demesne.operators"], maps := true, plainKeys := false, apart := false, laid := [("example.com/demesne/demesne.operators", laid_example_com_demesne_demesne_operators)] }
def LawS2773BTableSaid : Prop := lawS2773BTableRow.holds Ybad.pinned (OpenSpec.ofChange lawS2773BTableSpec)

/-- ITS FALSE NEIGHBOUR: 'it returns false'. Refute it at one input. -/
def lawS2773BTableWrong : ChangeSpec := { name := "lawS2773BTable", vars := ["example.com/demesne/demesne.operators"], fn := fun _ => fun
  | [d1, d2, d3, d4, g1] => { results := [.lit (.bool false)], args := [d1, d2, d3, d4], vars := [g1] }
  | _ => none }
def LawS2773BTableWrongFalsely : Prop := lawS2773BTableRow.holds Ybad.pinned (OpenSpec.ofChange lawS2773BTableWrong)

/-- 'demesne.LawS2773BReceiver': WHATEVER THE INPUT: true; the input reads as it did. -/
def lawS2773BReceiverSpec : ChangeSpec := { name := "lawS2773BReceiver", vars := ["example.com/demesne/demesne.operators"], fn := fun _ => fun
  | [d1, d2, d3, d4, d5, d6, d7, d8, g1] => { results := [.lit (.bool true)], args := [d1, d2, d3, d4, d5, d6, d7, d8], vars := [g1] }
  | _ => none }
def lawS2773BReceiverRow : OpenClaim := { program := "ybulkbekedoor", sum := "be2e2fa27d5e3498745a93b79b934a3a4bac2e5cfb6218d05a88c8317c8e76d1", func := "example.com/demesne/demesne.LawS2773BReceiver", spec := "lawS2773BReceiver", named := ["example.com/demesne/demesne.operators"], maps := true, plainKeys := false, apart := false, laid := [("example.com/demesne/demesne.operators", laid_example_com_demesne_demesne_operators)] }
def LawS2773BReceiverSaid : Prop := lawS2773BReceiverRow.holds Ybad.pinned (OpenSpec.ofChange lawS2773BReceiverSpec)

/-- ITS FALSE NEIGHBOUR: 'it returns false'. Refute it at one input. -/
def lawS2773BReceiverWrong : ChangeSpec := { name := "lawS2773BReceiver", vars := ["example.com/demesne/demesne.operators"], fn := fun _ => fun
  | [d1, d2, d3, d4, d5, d6, d7, d8, g1] => { results := [.lit (.bool false)], args := [d1, d2, d3, d4, d5, d6, d7, d8], vars := [g1] }
  | _ => none }
def LawS2773BReceiverWrongFalsely : Prop := lawS2773BReceiverRow.holds Ybad.pinned (OpenSpec.ofChange lawS2773BReceiverWrong)

end Rows
end Go.Proofs.YbulkbekeDoor
