/-
  No cell of these rows narrows 'for every input' (looked for: loops, veiled, ifaces, maps, wideKeys, modest, calm, conditions, laid).
  DERIVED. THE GIVEN ROWS OF THIS SEAT. 1 by the template 'for every input the law returns true; each argument reads behind the call as it read before'; 0 by the template 'total and deterministic' (their statements: YbulkduiwTotals.lean).
  GIVEN WITH THE SEED: the statements are not yours to turn. If you find one false, say at which input.
  Laid BY PROGRAM, IN A SANDBOX (cutbox-rows.mjs): the forced cells as the released guide's own fill.sh prints them over the translation 649e7a324f8cb39c… (all of the seat's roots in one cut). By AI agents, Wed Nov 11 2026. No macro, syntax, notation, axiom, sorry.
-/
import Derived.Test.YbulkduiwChecked
import GoSem.Claim
import GoSem.ClaimJoined
import GoSem.ClaimMapViews
import Derived.JoinedTies
import Derived.KernelRfl
namespace Go.Proofs.Ybulkduiw
/- THE CELL 'sum', in the pinned program and in every row, IS THE sha256 OF THE DUMP (.gsa) THAT YbulkduiwProg.lean LOADS. Nothing in Lean hashes anything: it is a label: what it is worth is what the hold of that sum in a sandbox is worth. -/
noncomputable def Yba.pinned : Pinned := { name := "ybulkduiw", sum := "649e7a324f8cb39c951c8edc582809c728bd5fe5317ebeb3cc7726ee81d80326", checked := Yba.checked }
namespace Rows
def none {H : Type} : Left H := { results := [], args := [] }

/-- 'measure.LawS6054CWhole': WHATEVER THE INPUT: true; the input reads as it did. -/
def lawS6054CWholeSpec : ChangeSpec := { name := "lawS6054CWhole", fn := fun _ => fun
  | [d] => { results := [.lit (.bool true)], args := [d] }
  | _ => none }
def lawS6054CWholeRow : OpenClaim := { program := "ybulkduiw", sum := "649e7a324f8cb39c951c8edc582809c728bd5fe5317ebeb3cc7726ee81d80326", func := "example.com/keyhold/keyhold/internal/measure.LawS6054CWhole", spec := "lawS6054CWhole", inPlace := ["math.Float64bits"], unfollowed := true, recurses := true, apart := false }
def LawS6054CWholeSaid : Prop := lawS6054CWholeRow.holds Yba.pinned (OpenSpec.ofChange lawS6054CWholeSpec)

/-- ITS FALSE NEIGHBOUR: 'it returns false'. Refute it at one input. -/
def lawS6054CWholeWrong : ChangeSpec := { name := "lawS6054CWhole", fn := fun _ => fun
  | [d] => { results := [.lit (.bool false)], args := [d] }
  | _ => none }
def LawS6054CWholeWrongFalsely : Prop := lawS6054CWholeRow.holds Yba.pinned (OpenSpec.ofChange lawS6054CWholeWrong)

end Rows
end Go.Proofs.Ybulkduiw
