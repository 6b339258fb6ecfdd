/-
  No cell of these rows narrows 'for every input' (looked for: loops, veiled, ifaces, maps, wideKeys, modest, calm, conditions, laid).
  DERIVED. THE GIVEN ROWS OF THIS SEAT. 1 by the template 'for every input the law returns true; each argument reads behind the call as it read before'; 0 by the template 'total and deterministic' (their statements: YbulkdqfeFmtTotals.lean).
  GIVEN WITH THE SEED: the statements are not yours to turn. If you find one false, say at which input.
  Laid BY PROGRAM, IN A SANDBOX (cutbox-rows.mjs): the forced cells as the released guide's own fill.sh prints them over the translation d7fa2839a482dff5… (all of the seat's roots in one cut). By AI agents, Wed Nov 11 2026. No macro, syntax, notation, axiom, sorry.
-/
import Derived.Test.YbulkdqfeFmtChecked
import GoSem.Claim
import GoSem.ClaimJoined
import GoSem.ClaimMapViews
import Derived.JoinedTies
import Derived.KernelRfl
namespace Go.Proofs.YbulkdqfeFmt
/- THE CELL 'sum', in the pinned program and in every row, IS THE sha256 OF THE DUMP (.gsa) THAT YbulkdqfeFmtProg.lean LOADS. Nothing in Lean hashes anything: it is a label: what it is worth is what the hold of that sum in a sandbox is worth. -/
noncomputable def Ybaf.pinned : Pinned := { name := "ybulkdqfefmt", sum := "d7fa2839a482dff56803b7c8bae067f83da1514161b8f278c48a9c80f2adde9c", checked := Ybaf.checked }
namespace Rows
def none {H : Type} : Left H := { results := [], args := [] }

/-- 'client.LawS5854APart': WHATEVER THE INPUT: true; the input reads as it did. -/
def lawS5854APartSpec : ChangeSpec := { name := "lawS5854APart", fn := fun _ => fun
  | [d1, d2] => { results := [.lit (.bool true)], args := [d1, d2] }
  | _ => none }
def lawS5854APartRow : OpenClaim := { program := "ybulkdqfefmt", sum := "d7fa2839a482dff56803b7c8bae067f83da1514161b8f278c48a9c80f2adde9c", func := "example.com/halfmark/halfmark/client.LawS5854APart", spec := "lawS5854APart", stops := ["fmt.Sprintf, its operands' methods called"], inPlace := ["fmt.Sprintf"], unfollowed := true, recurses := true, apart := false }
/-- NO THEOREM (fmt's text is open here; it may be false): for the released tool's asking of the row's closed facts alone. THE STATEMENT IS 'LawS5854APartToldSaid' (YbulkdqfeFmtCards.lean). -/
def LawS5854APartFormAsk : Prop := lawS5854APartRow.holds Ybaf.pinned (OpenSpec.ofChange lawS5854APartSpec)

/-- ITS FALSE NEIGHBOUR: 'it returns false'. Refute it at one input. -/
def lawS5854APartWrong : ChangeSpec := { name := "lawS5854APart", fn := fun _ => fun
  | [d1, d2] => { results := [.lit (.bool false)], args := [d1, d2] }
  | _ => none }
def LawS5854APartWrongFormAsk : Prop := lawS5854APartRow.holds Ybaf.pinned (OpenSpec.ofChange lawS5854APartWrong)

end Rows
end Go.Proofs.YbulkdqfeFmt
