/-
  NARROWER THAN 'FOR EVERY INPUT', by the rows' own cells (each row's printed sentence says how): LawS2775AEnd: ifaces, laid.
  DERIVED. THE GIVEN ROWS OF THIS SEAT. 3 by the template 'for every input the law returns true; each argument reads behind the call as it read before'; 0 by the template 'total and deterministic' (their statements: YbulkbelgFmtTotals.lean).
  GIVEN WITH THE SEED: the statements are not yours to turn. If you find one false, say at which input.
  Laid BY PROGRAM, IN A SANDBOX (cutbox-rows.mjs): the forced cells as the released guide's own fill.sh prints them over the translation 9429952777fe9850… (all of the seat's roots in one cut). By AI agents, Wed Nov 11 2026. No macro, syntax, notation, axiom, sorry.
-/
import Derived.Test.YbulkbelgFmtChecked
import GoSem.Claim
import GoSem.ClaimJoined
import GoSem.ClaimMapViews
import Derived.JoinedTies
import Derived.KernelRfl
namespace Go.Proofs.YbulkbelgFmt
/- THE CELL 'sum', in the pinned program and in every row, IS THE sha256 OF THE DUMP (.gsa) THAT YbulkbelgFmtProg.lean LOADS. Nothing in Lean hashes anything: it is a label: what it is worth is what the hold of that sum in a sandbox is worth. -/
noncomputable def Ybaf.pinned : Pinned := { name := "ybulkbelgfmt", sum := "9429952777fe9850e718dd64b97702b9425ea758f60f54478a61aa59c40a315a", checked := Ybaf.checked }
namespace Rows
def none {H : Type} : Left H := { results := [], args := [] }

/- WHAT THE LISTED PACKAGE-LEVEL VARIABLES READ AS WHEN THE CALL BEGINS. Each datum BY PROGRAM (the guide's laid-datum.mjs) off the statement by which the dump's own 'gosem.cut.vars' lays the variable. In a bare row this is a premise. The card (YbulkbelgFmtCards.lean) ties it to the program's text. -/
def laid_example_com_antecede_antecede_ErrSyntax {H : Type} : DataW H := .iface "*errors.errorString" (.ptr (.agg [.lit (.string [109, 97, 108, 102, 111, 114, 109, 101, 100, 32, 108, 111, 103])]))

/-- 'antecede.LawS2775AEnd': WHATEVER THE INPUT: true; the input reads as it did. -/
def lawS2775AEndSpec : ChangeSpec := { name := "lawS2775AEnd", vars := ["example.com/antecede/antecede.ErrSyntax"], fn := fun _ => fun
  | [d, g1] => { results := [.lit (.bool true)], args := [d], vars := [g1] }
  | _ => none }
def lawS2775AEndRow : OpenClaim := { program := "ybulkbelgfmt", sum := "9429952777fe9850e718dd64b97702b9425ea758f60f54478a61aa59c40a315a", func := "example.com/antecede/antecede.LawS2775AEnd", spec := "lawS2775AEnd", stops := ["fmt.errorf"], inPlace := ["fmt.errorf", "internal/reflectlite.TypeOf"], unfollowed := true, recurses := true, named := ["example.com/antecede/antecede.ErrSyntax"], ifaces := true, apart := false, laid := [("example.com/antecede/antecede.ErrSyntax", laid_example_com_antecede_antecede_ErrSyntax)] }
/-- NO THEOREM (fmt's text is open here; it may be false): for the released tool's asking of the row's closed facts alone. THE STATEMENT IS 'LawS2775AEndToldSaid' (YbulkbelgFmtCards.lean). -/
def LawS2775AEndFormAsk : Prop := lawS2775AEndRow.holds Ybaf.pinned (OpenSpec.ofChange lawS2775AEndSpec)

/-- ITS FALSE NEIGHBOUR: 'it returns false'. Refute it at one input. -/
def lawS2775AEndWrong : ChangeSpec := { name := "lawS2775AEnd", vars := ["example.com/antecede/antecede.ErrSyntax"], fn := fun _ => fun
  | [d, g1] => { results := [.lit (.bool false)], args := [d], vars := [g1] }
  | _ => none }
def LawS2775AEndWrongFormAsk : Prop := lawS2775AEndRow.holds Ybaf.pinned (OpenSpec.ofChange lawS2775AEndWrong)

/-- 'antecede.LawS2775CMapped': WHATEVER THE INPUT: true; the input reads as it did. -/
def lawS2775CMappedSpec : ChangeSpec := { name := "lawS2775CMapped", fn := fun _ => fun
  | [d1, d2] => { results := [.lit (.bool true)], args := [d1, d2] }
  | _ => none }
def lawS2775CMappedRow : OpenClaim := { program := "ybulkbelgfmt", sum := "9429952777fe9850e718dd64b97702b9425ea758f60f54478a61aa59c40a315a", func := "example.com/antecede/antecede.LawS2775CMapped", spec := "lawS2775CMapped", stops := ["fmt.errorf"], inPlace := ["fmt.errorf"], apart := false }
/-- NO THEOREM (fmt's text is open here; it may be false): for the released tool's asking of the row's closed facts alone. THE STATEMENT IS 'LawS2775CMappedToldSaid' (YbulkbelgFmtCards.lean). -/
def LawS2775CMappedFormAsk : Prop := lawS2775CMappedRow.holds Ybaf.pinned (OpenSpec.ofChange lawS2775CMappedSpec)

/-- ITS FALSE NEIGHBOUR: 'it returns false'. Refute it at one input. -/
def lawS2775CMappedWrong : ChangeSpec := { name := "lawS2775CMapped", fn := fun _ => fun
  | [d1, d2] => { results := [.lit (.bool false)], args := [d1, d2] }
  | _ => none }
def LawS2775CMappedWrongFormAsk : Prop := lawS2775CMappedRow.holds Ybaf.pinned (OpenSpec.ofChange lawS2775CMappedWrong)

/-- 'antecede.LawS2775CRaw': WHATEVER THE INPUT: true; the input reads as it did. -/
def lawS2775CRawSpec : ChangeSpec := { name := "lawS2775CRaw", fn := fun _ => fun
  | [d1, d2] => { results := [.lit (.bool true)], args := [d1, d2] }
  | _ => none }
def lawS2775CRawRow : OpenClaim := { program := "ybulkbelgfmt", sum := "9429952777fe9850e718dd64b97702b9425ea758f60f54478a61aa59c40a315a", func := "example.com/antecede/antecede.LawS2775CRaw", spec := "lawS2775CRaw", stops := ["fmt.errorf"], inPlace := ["fmt.errorf"], apart := false }
/-- NO THEOREM (fmt's text is open here; it may be false): for the released tool's asking of the row's closed facts alone. THE STATEMENT IS 'LawS2775CRawToldSaid' (YbulkbelgFmtCards.lean). -/
def LawS2775CRawFormAsk : Prop := lawS2775CRawRow.holds Ybaf.pinned (OpenSpec.ofChange lawS2775CRawSpec)

/-- ITS FALSE NEIGHBOUR: 'it returns false'. Refute it at one input. -/
def lawS2775CRawWrong : ChangeSpec := { name := "lawS2775CRaw", fn := fun _ => fun
  | [d1, d2] => { results := [.lit (.bool false)], args := [d1, d2] }
  | _ => none }
def LawS2775CRawWrongFormAsk : Prop := lawS2775CRawRow.holds Ybaf.pinned (OpenSpec.ofChange lawS2775CRawWrong)

end Rows
end Go.Proofs.YbulkbelgFmt
