/-
  No cell of these rows narrows 'for every input' (looked for: loops, veiled, ifaces, maps, wideKeys, modest, calm, conditions, laid).
  DERIVED. THE GIVEN ROWS OF THIS SEAT. 1 by the template 'for every input the law returns true; each argument reads behind the call as it read before'; 0 by the template 'total and deterministic' (their statements: YbulkdujkTotals.lean).
  GIVEN WITH THE SEED: the statements are not yours to turn. If you find one false, say at which input.
  Laid BY PROGRAM, IN A SANDBOX (cutbox-rows.mjs): the forced cells as the released guide's own fill.sh prints them over the translation f4b3d0b3eebe05eb… (all of the seat's roots in one cut). By AI agents, Wed Nov 11 2026. No macro, syntax, notation, axiom, sorry.
-/
import Derived.Test.YbulkdujkChecked
import GoSem.Claim
import GoSem.ClaimJoined
import GoSem.ClaimMapViews
import Derived.JoinedTies
import Derived.KernelRfl
namespace Go.Proofs.Ybulkdujk
/- THE CELL 'sum', in the pinned program and in every row, IS THE sha256 OF THE DUMP (.gsa) THAT YbulkdujkProg.lean LOADS. Nothing in Lean hashes anything: it is a label: what it is worth is what the hold of that sum in a sandbox is worth. -/
noncomputable def Yba.pinned : Pinned := { name := "ybulkdujk", sum := "f4b3d0b3eebe05eb406e63ea381cd77ab889004cdc97369598c922f25c929e27", checked := Yba.checked }
namespace Rows
def none {H : Type} : Left H := { results := [], args := [] }

/-- 'pics.LawS6055BWhole': WHATEVER THE INPUT: true; the input reads as it did. -/
def lawS6055BWholeSpec : ChangeSpec := { name := "lawS6055BWhole", fn := fun _ => fun
  | [d1, d2, d3, d4, d5] => { results := [.lit (.bool true)], args := [d1, d2, d3, d4, d5] }
  | _ => none }
def lawS6055BWholeRow : OpenClaim := { program := "ybulkdujk", sum := "f4b3d0b3eebe05eb406e63ea381cd77ab889004cdc97369598c922f25c929e27", func := "example.com/probatur/probatur/pics.LawS6055BWhole", spec := "lawS6055BWhole", apart := false }
def LawS6055BWholeSaid : Prop := lawS6055BWholeRow.holds Yba.pinned (OpenSpec.ofChange lawS6055BWholeSpec)

/-- ITS FALSE NEIGHBOUR: 'it returns false'. Refute it at one input. -/
def lawS6055BWholeWrong : ChangeSpec := { name := "lawS6055BWhole", fn := fun _ => fun
  | [d1, d2, d3, d4, d5] => { results := [.lit (.bool false)], args := [d1, d2, d3, d4, d5] }
  | _ => none }
def LawS6055BWholeWrongFalsely : Prop := lawS6055BWholeRow.holds Yba.pinned (OpenSpec.ofChange lawS6055BWholeWrong)

end Rows
end Go.Proofs.Ybulkdujk
