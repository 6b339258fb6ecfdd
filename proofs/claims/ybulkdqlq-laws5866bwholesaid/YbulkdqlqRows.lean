/-
  No cell of these rows narrows 'for every input' (looked for: loops, veiled, ifaces, maps, wideKeys, modest, calm, conditions, laid).
  DERIVED. THE GIVEN ROWS OF THIS SEAT. 1 by the template 'for every input the law returns true; each argument reads behind the call as it read before'; 0 by the template 'total and deterministic' (their statements: YbulkdqlqTotals.lean).
  GIVEN WITH THE SEED: the statements are not yours to turn. If you find one false, say at which input.
  Laid BY PROGRAM, IN A SANDBOX (cutbox-rows.mjs): the forced cells as the released guide's own fill.sh prints them over the translation 487f378696730699… (all of the seat's roots in one cut). By AI agents, Wed Nov 11 2026. No macro, syntax, notation, axiom, sorry.
-/
import Derived.Test.YbulkdqlqChecked
import GoSem.Claim
import GoSem.ClaimJoined
import GoSem.ClaimMapViews
import Derived.JoinedTies
import Derived.KernelRfl
namespace Go.Proofs.Ybulkdqlq
/- THE CELL 'sum', in the pinned program and in every row, IS THE sha256 OF THE DUMP (.gsa) THAT YbulkdqlqProg.lean LOADS. Nothing in Lean hashes anything: it is a label: what it is worth is what the hold of that sum in a sandbox is worth. -/
noncomputable def Yba.pinned : Pinned := { name := "ybulkdqlq", sum := "487f378696730699fa586ca1f92d74f5e5ef0f0a3423bcb5ebeaffe02c86a28f", checked := Yba.checked }
namespace Rows
def none {H : Type} : Left H := { results := [], args := [] }

/-- 'pheadline.LawS5866BWhole': WHATEVER THE INPUT: true; the input reads as it did. -/
def lawS5866BWholeSpec : ChangeSpec := { name := "lawS5866BWhole", fn := fun _ => fun
  | [d1, d2] => { results := [.lit (.bool true)], args := [d1, d2] }
  | _ => none }
def lawS5866BWholeRow : OpenClaim := { program := "ybulkdqlq", sum := "487f378696730699fa586ca1f92d74f5e5ef0f0a3423bcb5ebeaffe02c86a28f", func := "example.com/pheadline/pheadline.LawS5866BWhole", spec := "lawS5866BWhole", apart := false }
def LawS5866BWholeSaid : Prop := lawS5866BWholeRow.holds Yba.pinned (OpenSpec.ofChange lawS5866BWholeSpec)

/-- ITS FALSE NEIGHBOUR: 'it returns false'. Refute it at one input. -/
def lawS5866BWholeWrong : ChangeSpec := { name := "lawS5866BWhole", fn := fun _ => fun
  | [d1, d2] => { results := [.lit (.bool false)], args := [d1, d2] }
  | _ => none }
def LawS5866BWholeWrongFalsely : Prop := lawS5866BWholeRow.holds Yba.pinned (OpenSpec.ofChange lawS5866BWholeWrong)

end Rows
end Go.Proofs.Ybulkdqlq
