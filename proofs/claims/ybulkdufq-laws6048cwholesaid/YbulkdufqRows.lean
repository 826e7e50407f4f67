/-
  No cell of these rows narrows 'for every input' (looked for: loops, veiled, ifaces, maps, wideKeys, modest, calm, conditions, laid).
  DERIVED. THE GIVEN ROWS OF THIS SEAT. 1 by the template 'for every input the law returns true; each argument reads behind the call as it read before'; 0 by the template 'total and deterministic' (their statements: YbulkdufqTotals.lean).
  GIVEN WITH THE SEED: the statements are not yours to turn. If you find one false, say at which input.
  Laid BY PROGRAM, IN A SANDBOX (cutbox-rows.mjs): the forced cells as the released guide's own fill.sh prints them over the translation 2b7fac100345f4d5… (all of the seat's roots in one cut). By AI agents, Wed Nov 11 2026. No macro, syntax, notation, axiom, sorry.
-/
import Derived.Test.YbulkdufqChecked
import GoSem.Claim
import GoSem.ClaimJoined
import GoSem.ClaimMapViews
import Derived.JoinedTies
import Derived.KernelRfl
namespace Go.Proofs.Ybulkdufq
/- THE CELL 'sum', in the pinned program and in every row, IS THE sha256 OF THE DUMP (.gsa) THAT YbulkdufqProg.lean LOADS. Nothing in Lean hashes anything: it is a label: what it is worth is what the hold of that sum in a sandbox is worth. -/
noncomputable def Yba.pinned : Pinned := { name := "ybulkdufq", sum := "2b7fac100345f4d5643f8566e72a27a31315fdaff3c78cc0d04b5be79f970a6a", checked := Yba.checked }
namespace Rows
def none {H : Type} : Left H := { results := [], args := [] }

/-- 'fix.LawS6048CWhole': WHATEVER THE INPUT: true; the input reads as it did. -/
def lawS6048CWholeSpec : ChangeSpec := { name := "lawS6048CWhole", fn := fun _ => fun
  | [d1, d2] => { results := [.lit (.bool true)], args := [d1, d2] }
  | _ => none }
def lawS6048CWholeRow : OpenClaim := { program := "ybulkdufq", sum := "2b7fac100345f4d5643f8566e72a27a31315fdaff3c78cc0d04b5be79f970a6a", func := "example.com/taelhouse/taelhouse/internal/fix.LawS6048CWhole", spec := "lawS6048CWhole", apart := false }
def LawS6048CWholeSaid : Prop := lawS6048CWholeRow.holds Yba.pinned (OpenSpec.ofChange lawS6048CWholeSpec)

/-- ITS FALSE NEIGHBOUR: 'it returns false'. Refute it at one input. -/
def lawS6048CWholeWrong : ChangeSpec := { name := "lawS6048CWhole", fn := fun _ => fun
  | [d1, d2] => { results := [.lit (.bool false)], args := [d1, d2] }
  | _ => none }
def LawS6048CWholeWrongFalsely : Prop := lawS6048CWholeRow.holds Yba.pinned (OpenSpec.ofChange lawS6048CWholeWrong)

end Rows
end Go.Proofs.Ybulkdufq
