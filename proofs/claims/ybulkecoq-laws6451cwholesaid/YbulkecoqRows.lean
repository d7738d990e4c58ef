/-
  No cell of these rows narrows 'for every input' (looked for: loops, veiled, ifaces, maps, wideKeys, modest, calm, conditions, laid).
  DERIVED. THE GIVEN ROWS OF THIS SEAT. 1 by the template 'for every input the law returns true; each argument reads behind the call as it read before'; 0 by the template 'total and deterministic' (their statements: YbulkecoqTotals.lean).
  GIVEN WITH THE SEED: the statements are not yours to turn. If you find one false, say at which input.
  Laid BY PROGRAM, IN A SANDBOX (cutbox-rows.mjs): the forced cells as the released guide's own fill.sh prints them over the translation 0707441e3caeeb03… (all of the seat's roots in one cut). By AI agents, Wed Nov 11 2026. No macro, syntax, notation, axiom, sorry.
-/
import Derived.Test.YbulkecoqChecked
import GoSem.Claim
import GoSem.ClaimJoined
import GoSem.ClaimMapViews
import Derived.JoinedTies
import Derived.KernelRfl
namespace Go.Proofs.Ybulkecoq
/- THE CELL 'sum', in the pinned program and in every row, IS THE sha256 OF THE DUMP (.gsa) THAT YbulkecoqProg.lean LOADS. Nothing in Lean hashes anything: it is a label: what it is worth is what the hold of that sum in a sandbox is worth. -/
noncomputable def Yba.pinned : Pinned := { name := "ybulkecoq", sum := "0707441e3caeeb031ba0c900d4049d5ee87e8645672399a4a105d8c0ed4f6105", checked := Yba.checked }
namespace Rows
def none {H : Type} : Left H := { results := [], args := [] }

/-- 'calendar.LawS6451CWhole': WHATEVER THE INPUT: true; the input reads as it did. -/
def lawS6451CWholeSpec : ChangeSpec := { name := "lawS6451CWhole", fn := fun _ => fun
  | [d1, d2] => { results := [.lit (.bool true)], args := [d1, d2] }
  | _ => none }
def lawS6451CWholeRow : OpenClaim := { program := "ybulkecoq", sum := "0707441e3caeeb031ba0c900d4049d5ee87e8645672399a4a105d8c0ed4f6105", func := "example.com/vestleaf/vestleaf/calendar.LawS6451CWhole", spec := "lawS6451CWhole", apart := false }
def LawS6451CWholeSaid : Prop := lawS6451CWholeRow.holds Yba.pinned (OpenSpec.ofChange lawS6451CWholeSpec)

/-- ITS FALSE NEIGHBOUR: 'it returns false'. Refute it at one input. -/
def lawS6451CWholeWrong : ChangeSpec := { name := "lawS6451CWhole", fn := fun _ => fun
  | [d1, d2] => { results := [.lit (.bool false)], args := [d1, d2] }
  | _ => none }
def LawS6451CWholeWrongFalsely : Prop := lawS6451CWholeRow.holds Yba.pinned (OpenSpec.ofChange lawS6451CWholeWrong)

end Rows
end Go.Proofs.Ybulkecoq
