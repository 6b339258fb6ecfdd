/-
  No cell of these rows narrows 'for every input' (looked for: loops, veiled, ifaces, maps, wideKeys, modest, calm, conditions, laid).
  DERIVED. THE GIVEN ROWS OF THIS SEAT. 1 by the template 'for every input the law returns true; each argument reads behind the call as it read before'; 0 by the template 'total and deterministic' (their statements: YbulkdqfsTotals.lean).
  GIVEN WITH THE SEED: the statements are not yours to turn. If you find one false, say at which input.
  Laid BY PROGRAM, IN A SANDBOX (cutbox-rows.mjs): the forced cells as the released guide's own fill.sh prints them over the translation cfbae6e50c8d5664… (all of the seat's roots in one cut). By AI agents, Wed Nov 11 2026. No macro, syntax, notation, axiom, sorry.
-/
import Derived.Test.YbulkdqfsChecked
import GoSem.Claim
import GoSem.ClaimJoined
import GoSem.ClaimMapViews
import Derived.JoinedTies
import Derived.KernelRfl
namespace Go.Proofs.Ybulkdqfs
/- THE CELL 'sum', in the pinned program and in every row, IS THE sha256 OF THE DUMP (.gsa) THAT YbulkdqfsProg.lean LOADS. Nothing in Lean hashes anything: it is a label: what it is worth is what the hold of that sum in a sandbox is worth. -/
noncomputable def Yba.pinned : Pinned := { name := "ybulkdqfs", sum := "cfbae6e50c8d5664ce9601f4edcd5293aeed553ece2ab36c4e602e83a0f3e3d2", checked := Yba.checked }
namespace Rows
def none {H : Type} : Left H := { results := [], args := [] }

/-- 'config.LawS5855CWhole': WHATEVER THE INPUT: true; the input reads as it did. -/
def lawS5855CWholeSpec : ChangeSpec := { name := "lawS5855CWhole", fn := fun _ => fun
  | [d1, d2, d3, d4, d5, d6, d7, d8] => { results := [.lit (.bool true)], args := [d1, d2, d3, d4, d5, d6, d7, d8] }
  | _ => none }
def lawS5855CWholeRow : OpenClaim := { program := "ybulkdqfs", sum := "cfbae6e50c8d5664ce9601f4edcd5293aeed553ece2ab36c4e602e83a0f3e3d2", func := "example.com/vouchsafe/vouchsafe/pkg/config.LawS5855CWhole", spec := "lawS5855CWhole", apart := false }
def LawS5855CWholeSaid : Prop := lawS5855CWholeRow.holds Yba.pinned (OpenSpec.ofChange lawS5855CWholeSpec)

/-- ITS FALSE NEIGHBOUR: 'it returns false'. Refute it at one input. -/
def lawS5855CWholeWrong : ChangeSpec := { name := "lawS5855CWhole", fn := fun _ => fun
  | [d1, d2, d3, d4, d5, d6, d7, d8] => { results := [.lit (.bool false)], args := [d1, d2, d3, d4, d5, d6, d7, d8] }
  | _ => none }
def LawS5855CWholeWrongFalsely : Prop := lawS5855CWholeRow.holds Yba.pinned (OpenSpec.ofChange lawS5855CWholeWrong)

end Rows
end Go.Proofs.Ybulkdqfs
