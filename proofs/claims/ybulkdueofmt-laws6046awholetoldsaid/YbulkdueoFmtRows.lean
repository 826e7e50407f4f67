/-
  No cell of these rows narrows 'for every input' (looked for: loops, veiled, ifaces, maps, wideKeys, modest, calm, conditions, laid).
  DERIVED. THE GIVEN ROWS OF THIS SEAT. 3 by the template 'for every input the law returns true; each argument reads behind the call as it read before'; 0 by the template 'total and deterministic' (their statements: YbulkdueoFmtTotals.lean).
  GIVEN WITH THE SEED: the statements are not yours to turn. If you find one false, say at which input.
  Laid BY PROGRAM, IN A SANDBOX (cutbox-rows.mjs): the forced cells as the released guide's own fill.sh prints them over the translation 23a823230bbdba51… (all of the seat's roots in one cut). By AI agents, Wed Nov 11 2026. No macro, syntax, notation, axiom, sorry.
-/
import Derived.Test.YbulkdueoFmtChecked
import GoSem.Claim
import GoSem.ClaimJoined
import GoSem.ClaimMapViews
import Derived.JoinedTies
import Derived.KernelRfl
namespace Go.Proofs.YbulkdueoFmt
/- THE CELL 'sum', in the pinned program and in every row, IS THE sha256 OF THE DUMP (.gsa) THAT YbulkdueoFmtProg.lean LOADS. Nothing in Lean hashes anything: it is a label: what it is worth is what the hold of that sum in a sandbox is worth. -/
noncomputable def Ybaf.pinned : Pinned := { name := "ybulkdueofmt", sum := "23a823230bbdba51fc8478af41be31db1c70882e31bd81076ceb9694da852326", checked := Ybaf.checked }
namespace Rows
def none {H : Type} : Left H := { results := [], args := [] }

/-- 'iptables.LawS6046AWhole': WHATEVER THE INPUT: true; the input reads as it did. -/
def lawS6046AWholeSpec : ChangeSpec := { name := "lawS6046AWhole", fn := fun _ => fun
  | [d] => { results := [.lit (.bool true)], args := [d] }
  | _ => none }
def lawS6046AWholeRow : OpenClaim := { program := "ybulkdueofmt", sum := "23a823230bbdba51fc8478af41be31db1c70882e31bd81076ceb9694da852326", func := "example.com/nueces/nueces/internal/iptables.LawS6046AWhole", spec := "lawS6046AWhole", stops := ["fmt.errorf"], inPlace := ["fmt.errorf", "math/bits.Add64"], apart := false }
/-- NO THEOREM (fmt's text is open here; it may be false): for the released tool's asking of the row's closed facts alone. THE STATEMENT IS 'LawS6046AWholeToldSaid' (YbulkdueoFmtCards.lean). -/
def LawS6046AWholeFormAsk : Prop := lawS6046AWholeRow.holds Ybaf.pinned (OpenSpec.ofChange lawS6046AWholeSpec)

/-- ITS FALSE NEIGHBOUR: 'it returns false'. Refute it at one input. -/
def lawS6046AWholeWrong : ChangeSpec := { name := "lawS6046AWhole", fn := fun _ => fun
  | [d] => { results := [.lit (.bool false)], args := [d] }
  | _ => none }
def LawS6046AWholeWrongFormAsk : Prop := lawS6046AWholeRow.holds Ybaf.pinned (OpenSpec.ofChange lawS6046AWholeWrong)

/-- 'iptables.LawS6046AClock': WHATEVER THE INPUT: true; the input reads as it did. -/
def lawS6046AClockSpec : ChangeSpec := { name := "lawS6046AClock", fn := fun _ => fun
  | [d1, d2, d3, d4, d5] => { results := [.lit (.bool true)], args := [d1, d2, d3, d4, d5] }
  | _ => none }
def lawS6046AClockRow : OpenClaim := { program := "ybulkdueofmt", sum := "23a823230bbdba51fc8478af41be31db1c70882e31bd81076ceb9694da852326", func := "example.com/nueces/nueces/internal/iptables.LawS6046AClock", spec := "lawS6046AClock", stops := ["fmt.errorf"], inPlace := ["fmt.errorf"], apart := false }
/-- NO THEOREM (fmt's text is open here; it may be false): for the released tool's asking of the row's closed facts alone. THE STATEMENT IS 'LawS6046AClockToldSaid' (YbulkdueoFmtCards.lean). -/
def LawS6046AClockFormAsk : Prop := lawS6046AClockRow.holds Ybaf.pinned (OpenSpec.ofChange lawS6046AClockSpec)

/-- ITS FALSE NEIGHBOUR: 'it returns false'. Refute it at one input. -/
def lawS6046AClockWrong : ChangeSpec := { name := "lawS6046AClock", fn := fun _ => fun
  | [d1, d2, d3, d4, d5] => { results := [.lit (.bool false)], args := [d1, d2, d3, d4, d5] }
  | _ => none }
def LawS6046AClockWrongFormAsk : Prop := lawS6046AClockRow.holds Ybaf.pinned (OpenSpec.ofChange lawS6046AClockWrong)

/-- 'iptables.LawS6046BWhole': WHATEVER THE INPUT: true; the input reads as it did. -/
def lawS6046BWholeSpec : ChangeSpec := { name := "lawS6046BWhole", fn := fun _ => fun
  | [d1, d2] => { results := [.lit (.bool true)], args := [d1, d2] }
  | _ => none }
def lawS6046BWholeRow : OpenClaim := { program := "ybulkdueofmt", sum := "23a823230bbdba51fc8478af41be31db1c70882e31bd81076ceb9694da852326", func := "example.com/nueces/nueces/internal/iptables.LawS6046BWhole", spec := "lawS6046BWhole", stops := ["fmt.errorf"], inPlace := ["fmt.errorf"], apart := false }
/-- NO THEOREM (fmt's text is open here; it may be false): for the released tool's asking of the row's closed facts alone. THE STATEMENT IS 'LawS6046BWholeToldSaid' (YbulkdueoFmtCards.lean). -/
def LawS6046BWholeFormAsk : Prop := lawS6046BWholeRow.holds Ybaf.pinned (OpenSpec.ofChange lawS6046BWholeSpec)

/-- ITS FALSE NEIGHBOUR: 'it returns false'. Refute it at one input. -/
def lawS6046BWholeWrong : ChangeSpec := { name := "lawS6046BWhole", fn := fun _ => fun
  | [d1, d2] => { results := [.lit (.bool false)], args := [d1, d2] }
  | _ => none }
def LawS6046BWholeWrongFormAsk : Prop := lawS6046BWholeRow.holds Ybaf.pinned (OpenSpec.ofChange lawS6046BWholeWrong)

end Rows
end Go.Proofs.YbulkdueoFmt
