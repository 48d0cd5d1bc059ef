/-
  DERIVED. GIVEN WITH THE SEED: THE CARDS: each row of YbulkbelgFmtRows.lean that lists a variable, with what it lists TIED to the program's text (the seventh form; the later family's looks); each row that meets fmt, with fmt's text TOLD by the authors' own Lean function (tested against real Go, not proved from fmt's source: count such statements apart). THE CARD IS WHAT COUNTS. Prove the row's statement (the work); the ties are given (YbulkbelgFmtTie.lean); close each card by the builder's one call (the guide's Derived/Test/ToyasCard.lean, 'card_holds'). Laid BY PROGRAM, IN A SANDBOX (cutbox-door.mjs). By AI agents, Wed Nov 11 2026. No macro, syntax, notation, axiom, sorry.
-/
import Derived.Test.YbulkbelgFmtRows
import GoSem.ClaimSeven
namespace Go.Proofs.YbulkbelgFmt
namespace Rows

/-- THE TOLD AND TIED CARD OF 'antecede.LawS2775AEnd'. -/
def lawS2775AEndCard : Claim7 := { stood := { row := lawS2775AEndRow, standIns := [], harness := (true, "cda053bba94f340305f6bb82c318b29061b768b9bc928d8479dc86666f907d36"), looks := true }, told := true, laidByText := true, laidKinds := [.sentinel], laidTests := true, laidLooks := .later, goes := false }
def LawS2775AEndToldSaid : Prop := Claim7.holds Ybaf.pinned (.plain (OpenSpec.ofChange lawS2775AEndSpec)) lawS2775AEndCard
/-- ITS FALSE NEIGHBOUR. Refute it at one input. -/
def LawS2775AEndToldWrongFalsely : Prop := Claim7.holds Ybaf.pinned (.plain (OpenSpec.ofChange lawS2775AEndWrong)) lawS2775AEndCard

/-- THE TOLD CARD OF 'antecede.LawS2775CMapped'. -/
def lawS2775CMappedCard : Claim7 := { stood := { row := lawS2775CMappedRow, standIns := [], harness := (true, "cda053bba94f340305f6bb82c318b29061b768b9bc928d8479dc86666f907d36"), looks := true }, told := true, goes := false }
def LawS2775CMappedToldSaid : Prop := Claim7.holds Ybaf.pinned (.plain (OpenSpec.ofChange lawS2775CMappedSpec)) lawS2775CMappedCard
/-- ITS FALSE NEIGHBOUR. Refute it at one input. -/
def LawS2775CMappedToldWrongFalsely : Prop := Claim7.holds Ybaf.pinned (.plain (OpenSpec.ofChange lawS2775CMappedWrong)) lawS2775CMappedCard

/-- THE TOLD CARD OF 'antecede.LawS2775CRaw'. -/
def lawS2775CRawCard : Claim7 := { stood := { row := lawS2775CRawRow, standIns := [], harness := (true, "cda053bba94f340305f6bb82c318b29061b768b9bc928d8479dc86666f907d36"), looks := true }, told := true, goes := false }
def LawS2775CRawToldSaid : Prop := Claim7.holds Ybaf.pinned (.plain (OpenSpec.ofChange lawS2775CRawSpec)) lawS2775CRawCard
/-- ITS FALSE NEIGHBOUR. Refute it at one input. -/
def LawS2775CRawToldWrongFalsely : Prop := Claim7.holds Ybaf.pinned (.plain (OpenSpec.ofChange lawS2775CRawWrong)) lawS2775CRawCard
end Rows
end Go.Proofs.YbulkbelgFmt
