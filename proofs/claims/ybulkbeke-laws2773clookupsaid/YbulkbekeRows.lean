/-
  No cell of these rows narrows 'for every input' (looked for: loops, veiled, ifaces, maps, wideKeys, modest, calm, conditions, laid).
  DERIVED. THE GIVEN ROWS OF THIS SEAT. 2 by the template 'for every input the law returns true; each argument reads behind the call as it read before'; 0 by the template 'total and deterministic' (their statements: YbulkbekeTotals.lean).
  GIVEN WITH THE SEED: the statements are not yours to turn. If you find one false, say at which input.
  Laid BY PROGRAM, IN A SANDBOX (cutbox-rows.mjs): the forced cells as the released guide's own fill.sh prints them over the translation 4d06288a27a922b4… (all of the seat's roots in one cut). By AI agents, Wed Nov 11 2026. No macro, syntax, notation, axiom, sorry.
-/
import Derived.Test.YbulkbekeChecked
import GoSem.Claim
import GoSem.ClaimJoined
import GoSem.ClaimMapViews
import Derived.JoinedTies
import Derived.KernelRfl
namespace Go.Proofs.Ybulkbeke
/- THE CELL 'sum', in the pinned program and in every row, IS THE sha256 OF THE DUMP (.gsa) THAT YbulkbekeProg.lean LOADS. Nothing in Lean hashes anything: it is a label: what it is worth is what the hold of that sum in a sandbox is worth. -/
noncomputable def Yba.pinned : Pinned := { name := "ybulkbeke", sum := "4d06288a27a922b4364ac4af6148d048890fdeb8c028a5fa3133d185bb775c6d", checked := Yba.checked }
namespace Rows
def none {H : Type} : Left H := { results := [], args := [] }

/-- 'demesne.LawS2773CKept': WHATEVER THE INPUT: true; the input reads as it did. -/
def lawS2773CKeptSpec : ChangeSpec := { name := "lawS2773CKept", fn := fun _ => fun
  | [d1, d2, d3] => { results := [.lit (.bool true)], args := [d1, d2, d3] }
  | _ => none }
def lawS2773CKeptRow : OpenClaim := { program := "ybulkbeke", sum := "4d06288a27a922b4364ac4af6148d048890fdeb8c028a5fa3133d185bb775c6d", func := "example.com/demesne/demesne.LawS2773CKept", spec := "lawS2773CKept", apart := false }
def LawS2773CKeptSaid : Prop := lawS2773CKeptRow.holds Yba.pinned (OpenSpec.ofChange lawS2773CKeptSpec)

/-- ITS FALSE NEIGHBOUR: 'it returns false'. Refute it at one input. -/
def lawS2773CKeptWrong : ChangeSpec := { name := "lawS2773CKept", fn := fun _ => fun
  | [d1, d2, d3] => { results := [.lit (.bool false)], args := [d1, d2, d3] }
  | _ => none }
def LawS2773CKeptWrongFalsely : Prop := lawS2773CKeptRow.holds Yba.pinned (OpenSpec.ofChange lawS2773CKeptWrong)

/-- 'demesne.LawS2773CLookUp': WHATEVER THE INPUT: true; the input reads as it did. -/
def lawS2773CLookUpSpec : ChangeSpec := { name := "lawS2773CLookUp", fn := fun _ => fun
  | [d1, d2, d3] => { results := [.lit (.bool true)], args := [d1, d2, d3] }
  | _ => none }
def lawS2773CLookUpRow : OpenClaim := { program := "ybulkbeke", sum := "4d06288a27a922b4364ac4af6148d048890fdeb8c028a5fa3133d185bb775c6d", func := "example.com/demesne/demesne.LawS2773CLookUp", spec := "lawS2773CLookUp", apart := false }
def LawS2773CLookUpSaid : Prop := lawS2773CLookUpRow.holds Yba.pinned (OpenSpec.ofChange lawS2773CLookUpSpec)

/-- ITS FALSE NEIGHBOUR: 'it returns false'. Refute it at one input. -/
def lawS2773CLookUpWrong : ChangeSpec := { name := "lawS2773CLookUp", fn := fun _ => fun
  | [d1, d2, d3] => { results := [.lit (.bool false)], args := [d1, d2, d3] }
  | _ => none }
def LawS2773CLookUpWrongFalsely : Prop := lawS2773CLookUpRow.holds Yba.pinned (OpenSpec.ofChange lawS2773CLookUpWrong)

end Rows
end Go.Proofs.Ybulkbeke
