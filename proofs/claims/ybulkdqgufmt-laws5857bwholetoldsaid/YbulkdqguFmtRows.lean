/-
  NARROWER THAN 'FOR EVERY INPUT', by the rows' own cells (each row's printed sentence says how): LawS5857CWhole: laid.
  DERIVED. THE GIVEN ROWS OF THIS SEAT. 2 by the template 'for every input the law returns true; each argument reads behind the call as it read before'; 0 by the template 'total and deterministic' (their statements: YbulkdqguFmtTotals.lean).
  GIVEN WITH THE SEED: the statements are not yours to turn. If you find one false, say at which input.
  Laid BY PROGRAM, IN A SANDBOX (cutbox-rows.mjs): the forced cells as the released guide's own fill.sh prints them over the translation 873184b29cd612b1… (all of the seat's roots in one cut). By AI agents, Wed Nov 11 2026. No macro, syntax, notation, axiom, sorry.
-/
import Derived.Test.YbulkdqguFmtChecked
import GoSem.Claim
import GoSem.ClaimJoined
import GoSem.ClaimMapViews
import Derived.JoinedTies
import Derived.KernelRfl
namespace Go.Proofs.YbulkdqguFmt
/- THE CELL 'sum', in the pinned program and in every row, IS THE sha256 OF THE DUMP (.gsa) THAT YbulkdqguFmtProg.lean LOADS. Nothing in Lean hashes anything: it is a label: what it is worth is what the hold of that sum in a sandbox is worth. -/
noncomputable def Ybaf.pinned : Pinned := { name := "ybulkdqgufmt", sum := "873184b29cd612b150cd2535a07bcbc1f21208b306858ddaf28e5bc4093637bb", checked := Ybaf.checked }
namespace Rows
def none {H : Type} : Left H := { results := [], args := [] }

/- WHAT THE LISTED PACKAGE-LEVEL VARIABLES READ AS WHEN THE CALL BEGINS. Each datum BY PROGRAM (the guide's laid-datum.mjs) off the statement by which the dump's own 'gosem.cut.vars' lays the variable. In a bare row this is a premise. The card (YbulkdqguFmtCards.lean) ties it to the program's text. -/
def laid_example_com_analemma_analemma_foldNames {H : Type} : DataW H := .agg [.lit (.string [70, 111, 108, 100]), .lit (.string [102, 111, 108, 100]), .slice [.lit (.string [110, 111, 110, 101]), .lit (.string [101, 97, 114, 108, 105, 101, 114]), .lit (.string [108, 97, 116, 101, 114])] []]

/-- 'analemma.LawS5857BWhole': WHATEVER THE INPUT: true; the input reads as it did. -/
def lawS5857BWholeSpec : ChangeSpec := { name := "lawS5857BWhole", fn := fun _ => fun
  | [d] => { results := [.lit (.bool true)], args := [d] }
  | _ => none }
def lawS5857BWholeRow : OpenClaim := { program := "ybulkdqgufmt", sum := "873184b29cd612b150cd2535a07bcbc1f21208b306858ddaf28e5bc4093637bb", func := "example.com/analemma/analemma.LawS5857BWhole", spec := "lawS5857BWhole", stops := ["fmt.errorf"], inPlace := ["math.Float64bits", "math.Float64frombits", "fmt.errorf", "math.archTrunc"], apart := false }
/-- NO THEOREM (fmt's text is open here; it may be false): for the released tool's asking of the row's closed facts alone. THE STATEMENT IS 'LawS5857BWholeToldSaid' (YbulkdqguFmtCards.lean). -/
def LawS5857BWholeFormAsk : Prop := lawS5857BWholeRow.holds Ybaf.pinned (OpenSpec.ofChange lawS5857BWholeSpec)

/-- ITS FALSE NEIGHBOUR: 'it returns false'. Refute it at one input. -/
def lawS5857BWholeWrong : ChangeSpec := { name := "lawS5857BWhole", fn := fun _ => fun
  | [d] => { results := [.lit (.bool false)], args := [d] }
  | _ => none }
def LawS5857BWholeWrongFormAsk : Prop := lawS5857BWholeRow.holds Ybaf.pinned (OpenSpec.ofChange lawS5857BWholeWrong)

/-- 'analemma.LawS5857CWhole': WHATEVER THE INPUT: true; the input reads as it did. -/
def lawS5857CWholeSpec : ChangeSpec := { name := "lawS5857CWhole", vars := ["example.com/analemma/analemma.foldNames"], fn := fun _ => fun
  | [d1, d2, d3, g1] => { results := [.lit (.bool true)], args := [d1, d2, d3], vars := [g1] }
  | _ => none }
def lawS5857CWholeRow : OpenClaim := { program := "ybulkdqgufmt", sum := "873184b29cd612b150cd2535a07bcbc1f21208b306858ddaf28e5bc4093637bb", func := "example.com/analemma/analemma.LawS5857CWhole", spec := "lawS5857CWhole", stops := ["fmt.errorf"], inPlace := ["internal/abi.NoEscape", "internal/bytealg.MakeNoZero", "fmt.errorf"], named := ["example.com/analemma/analemma.foldNames"], apart := false, laid := [("example.com/analemma/analemma.foldNames", laid_example_com_analemma_analemma_foldNames)] }
/-- NO THEOREM (fmt's text is open here; it may be false): for the released tool's asking of the row's closed facts alone. THE STATEMENT IS 'LawS5857CWholeToldSaid' (YbulkdqguFmtCards.lean). -/
def LawS5857CWholeFormAsk : Prop := lawS5857CWholeRow.holds Ybaf.pinned (OpenSpec.ofChange lawS5857CWholeSpec)

/-- ITS FALSE NEIGHBOUR: 'it returns false'. Refute it at one input. -/
def lawS5857CWholeWrong : ChangeSpec := { name := "lawS5857CWhole", vars := ["example.com/analemma/analemma.foldNames"], fn := fun _ => fun
  | [d1, d2, d3, g1] => { results := [.lit (.bool false)], args := [d1, d2, d3], vars := [g1] }
  | _ => none }
def LawS5857CWholeWrongFormAsk : Prop := lawS5857CWholeRow.holds Ybaf.pinned (OpenSpec.ofChange lawS5857CWholeWrong)

end Rows
end Go.Proofs.YbulkdqguFmt
