/-
  DERIVED. GIVEN WITH THE SEED: THE CARDS: each row of YbulkdueoFmtRows.lean that lists a variable, with what it lists TIED to the program's text (the seventh form; the later family's looks); each row that meets fmt, with fmt's text TOLD by the authors' own Lean function (tested against real Go, not proved from fmt's source: count such statements apart). THE CARD IS WHAT COUNTS. Prove the row's statement (the work); the ties are given (YbulkdueoFmtTie.lean); close each card by the builder's one call (the guide's Derived/Test/ToyasCard.lean, 'card_holds'). Laid BY PROGRAM, IN A SANDBOX (cutbox-door.mjs). By AI agents, Wed Nov 11 2026. No macro, syntax, notation, axiom, sorry.
-/
import Derived.Test.YbulkdueoFmtRows
import GoSem.ClaimSeven
namespace Go.Proofs.YbulkdueoFmt
namespace Rows

/-- THE TOLD CARD OF 'iptables.LawS6046AWhole'. -/
def lawS6046AWholeCard : Claim7 := { stood := { row := lawS6046AWholeRow, standIns := [], harness := (true, "05bea3392b16ad078d06e7911f13d64f730ab11063f7918a3b40551368d01cd7"), looks := false }, told := true, goes := false }
def LawS6046AWholeToldSaid : Prop := Claim7.holds Ybaf.pinned (.plain (OpenSpec.ofChange lawS6046AWholeSpec)) lawS6046AWholeCard
/-- ITS FALSE NEIGHBOUR. Refute it at one input. -/
def LawS6046AWholeToldWrongFalsely : Prop := Claim7.holds Ybaf.pinned (.plain (OpenSpec.ofChange lawS6046AWholeWrong)) lawS6046AWholeCard

/-- THE TOLD CARD OF 'iptables.LawS6046AClock'. -/
def lawS6046AClockCard : Claim7 := { stood := { row := lawS6046AClockRow, standIns := [], harness := (true, "05bea3392b16ad078d06e7911f13d64f730ab11063f7918a3b40551368d01cd7"), looks := false }, told := true, goes := false }
def LawS6046AClockToldSaid : Prop := Claim7.holds Ybaf.pinned (.plain (OpenSpec.ofChange lawS6046AClockSpec)) lawS6046AClockCard
/-- ITS FALSE NEIGHBOUR. Refute it at one input. -/
def LawS6046AClockToldWrongFalsely : Prop := Claim7.holds Ybaf.pinned (.plain (OpenSpec.ofChange lawS6046AClockWrong)) lawS6046AClockCard

/-- THE TOLD CARD OF 'iptables.LawS6046BWhole'. -/
def lawS6046BWholeCard : Claim7 := { stood := { row := lawS6046BWholeRow, standIns := [], harness := (true, "05bea3392b16ad078d06e7911f13d64f730ab11063f7918a3b40551368d01cd7"), looks := false }, told := true, goes := false }
def LawS6046BWholeToldSaid : Prop := Claim7.holds Ybaf.pinned (.plain (OpenSpec.ofChange lawS6046BWholeSpec)) lawS6046BWholeCard
/-- ITS FALSE NEIGHBOUR. Refute it at one input. -/
def LawS6046BWholeToldWrongFalsely : Prop := Claim7.holds Ybaf.pinned (.plain (OpenSpec.ofChange lawS6046BWholeWrong)) lawS6046BWholeCard
end Rows
end Go.Proofs.YbulkdueoFmt
