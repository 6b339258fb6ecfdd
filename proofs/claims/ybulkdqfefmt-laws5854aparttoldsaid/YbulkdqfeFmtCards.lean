/-
  DERIVED. GIVEN WITH THE SEED: THE CARDS: each row of YbulkdqfeFmtRows.lean that lists a variable, with what it lists TIED to the program's text (the seventh form; the later family's looks); each row that meets fmt, with fmt's text TOLD by the authors' own Lean function (tested against real Go, not proved from fmt's source: count such statements apart). THE CARD IS WHAT COUNTS. Prove the row's statement (the work); the ties are given (YbulkdqfeFmtTie.lean); close each card by the builder's one call (the guide's Derived/Test/ToyasCard.lean, 'card_holds'). Laid BY PROGRAM, IN A SANDBOX (cutbox-door.mjs). By AI agents, Wed Nov 11 2026. No macro, syntax, notation, axiom, sorry.
-/
import Derived.Test.YbulkdqfeFmtRows
import GoSem.ClaimSeven
namespace Go.Proofs.YbulkdqfeFmt
namespace Rows

/-- THE TOLD CARD OF 'client.LawS5854APart'. -/
def lawS5854APartCard : Claim7 := { stood := { row := lawS5854APartRow, standIns := [], harness := (true, "c9eae69e0e2af0babf7278b4a7bb1b4d22f87fafaa4f7be2759bb26162274ee7"), looks := true }, told := true, goes := false }
def LawS5854APartToldSaid : Prop := Claim7.holds Ybaf.pinned (.plain (OpenSpec.ofChange lawS5854APartSpec)) lawS5854APartCard
/-- ITS FALSE NEIGHBOUR. Refute it at one input. -/
def LawS5854APartToldWrongFalsely : Prop := Claim7.holds Ybaf.pinned (.plain (OpenSpec.ofChange lawS5854APartWrong)) lawS5854APartCard
end Rows
end Go.Proofs.YbulkdqfeFmt
