/-
  DERIVED. GIVEN WITH THE SEED: THE CARDS: each row of YbulkecmmFmtRows.lean that lists a variable, with what it lists TIED to the program's text (the seventh form; the later family's looks); each row that meets fmt, with fmt's text TOLD by the authors' own Lean function (tested against real Go, not proved from fmt's source: count such statements apart). THE CARD IS WHAT COUNTS. Prove the row's statement (the work); the ties are given (YbulkecmmFmtTie.lean); close each card by the builder's one call (the guide's Derived/Test/ToyasCard.lean, 'card_holds'). Laid BY PROGRAM, IN A SANDBOX (cutbox-door.mjs). By AI agents, Wed Nov 11 2026. No macro, syntax, notation, axiom, sorry.
-/
import Derived.Test.YbulkecmmFmtRows
import GoSem.ClaimSeven
namespace Go.Proofs.YbulkecmmFmt
namespace Rows

/-- THE TOLD AND TIED CARD OF 'slipring.LawS6447BWhole'. -/
def lawS6447BWholeCard : Claim7 := { stood := { row := lawS6447BWholeRow, standIns := [], harness := (true, "f3586eab351c2346dac4085ac3961a964d2fd8b1e522a01c0ebde16185aa015d"), looks := true }, told := true, laidByText := true, laidKinds := [.sentinel, .sentinel, .sentinel, .data], laidTests := true, laidLooks := .later, goes := false }
def LawS6447BWholeToldSaid : Prop := Claim7.holds Ybaf.pinned (.plain (OpenSpec.ofChange lawS6447BWholeSpec)) lawS6447BWholeCard
/-- ITS FALSE NEIGHBOUR. Refute it at one input. -/
def LawS6447BWholeToldWrongFalsely : Prop := Claim7.holds Ybaf.pinned (.plain (OpenSpec.ofChange lawS6447BWholeWrong)) lawS6447BWholeCard

/-- THE TOLD AND TIED CARD OF 'graph.LawS6447CWhole'. -/
def lawS6447CWholeCard : Claim7 := { stood := { row := lawS6447CWholeRow, standIns := [], harness := (true, "f3586eab351c2346dac4085ac3961a964d2fd8b1e522a01c0ebde16185aa015d"), looks := true }, told := true, laidByText := true, laidKinds := [.sentinel, .sentinel], laidTests := true, laidLooks := .later, goes := false }
def LawS6447CWholeToldSaid : Prop := Claim7.holds Ybaf.pinned (.plain (OpenSpec.ofChange lawS6447CWholeSpec)) lawS6447CWholeCard
/-- ITS FALSE NEIGHBOUR. Refute it at one input. -/
def LawS6447CWholeToldWrongFalsely : Prop := Claim7.holds Ybaf.pinned (.plain (OpenSpec.ofChange lawS6447CWholeWrong)) lawS6447CWholeCard
end Rows
end Go.Proofs.YbulkecmmFmt
