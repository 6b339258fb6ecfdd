/-
  DERIVED. GIVEN WITH THE SEED: THE CARDS: each row of YbulkdqguFmtRows.lean that lists a variable, with what it lists TIED to the program's text (the seventh form; the later family's looks); each row that meets fmt, with fmt's text TOLD by the authors' own Lean function (tested against real Go, not proved from fmt's source: count such statements apart). THE CARD IS WHAT COUNTS. Prove the row's statement (the work); the ties are given (YbulkdqguFmtTie.lean); close each card by the builder's one call (the guide's Derived/Test/ToyasCard.lean, 'card_holds'). Laid BY PROGRAM, IN A SANDBOX (cutbox-door.mjs). By AI agents, Wed Nov 11 2026. No macro, syntax, notation, axiom, sorry.
-/
import Derived.Test.YbulkdqguFmtRows
import GoSem.ClaimSeven
namespace Go.Proofs.YbulkdqguFmt
namespace Rows

/-- THE TOLD CARD OF 'analemma.LawS5857BWhole'. -/
def lawS5857BWholeCard : Claim7 := { stood := { row := lawS5857BWholeRow, standIns := [], harness := (true, "0229bc95d29925c0e792601e637f844ffc8cab202e1b32aedc209a40d1a9e9e2"), looks := false }, told := true, goes := false }
def LawS5857BWholeToldSaid : Prop := Claim7.holds Ybaf.pinned (.plain (OpenSpec.ofChange lawS5857BWholeSpec)) lawS5857BWholeCard
/-- ITS FALSE NEIGHBOUR. Refute it at one input. -/
def LawS5857BWholeToldWrongFalsely : Prop := Claim7.holds Ybaf.pinned (.plain (OpenSpec.ofChange lawS5857BWholeWrong)) lawS5857BWholeCard

/-- THE TOLD AND TIED CARD OF 'analemma.LawS5857CWhole'. -/
def lawS5857CWholeCard : Claim7 := { stood := { row := lawS5857CWholeRow, standIns := [], harness := (true, "0229bc95d29925c0e792601e637f844ffc8cab202e1b32aedc209a40d1a9e9e2"), looks := false }, told := true, laidByText := true, laidKinds := [.widerDeep], laidTests := true, laidLooks := .later, goes := false }
def LawS5857CWholeToldSaid : Prop := Claim7.holds Ybaf.pinned (.plain (OpenSpec.ofChange lawS5857CWholeSpec)) lawS5857CWholeCard
/-- ITS FALSE NEIGHBOUR. Refute it at one input. -/
def LawS5857CWholeToldWrongFalsely : Prop := Claim7.holds Ybaf.pinned (.plain (OpenSpec.ofChange lawS5857CWholeWrong)) lawS5857CWholeCard
end Rows
end Go.Proofs.YbulkdqguFmt
