/-
  No cell of these rows narrows 'for every input' (looked for: loops, veiled, ifaces, maps, wideKeys, modest, calm, conditions, laid).
  DERIVED. THE GIVEN ROWS OF THIS SEAT. 1 by the template 'for every input the law returns true; each argument reads behind the call as it read before'; 0 by the template 'total and deterministic' (their statements: YbulkeclyTotals.lean).
  GIVEN WITH THE SEED: the statements are not yours to turn. If you find one false, say at which input.
  Laid BY PROGRAM, IN A SANDBOX (cutbox-rows.mjs): the forced cells as the released guide's own fill.sh prints them over the translation 692b89633daf79d5… (all of the seat's roots in one cut). By AI agents, Wed Nov 11 2026. No macro, syntax, notation, axiom, sorry.
-/
import Derived.Test.YbulkeclyChecked
import GoSem.Claim
import GoSem.ClaimJoined
import GoSem.ClaimMapViews
import Derived.JoinedTies
import Derived.KernelRfl
namespace Go.Proofs.Ybulkecly
/- THE CELL 'sum', in the pinned program and in every row, IS THE sha256 OF THE DUMP (.gsa) THAT YbulkeclyProg.lean LOADS. Nothing in Lean hashes anything: it is a label: what it is worth is what the hold of that sum in a sandbox is worth. -/
noncomputable def Yba.pinned : Pinned := { name := "ybulkecly", sum := "692b89633daf79d56c3bbc982d28a1933a2ebbedb9aa808fbd3b6aa80c862537", checked := Yba.checked }
namespace Rows
def none {H : Type} : Left H := { results := [], args := [] }

/-- 'state.LawS6446AWhole': WHATEVER THE INPUT: true; the input reads as it did. -/
def lawS6446AWholeSpec : ChangeSpec := { name := "lawS6446AWhole", fn := fun _ => fun
  | [d1, d2, d3, d4, d5, d6, d7] => { results := [.lit (.bool true)], args := [d1, d2, d3, d4, d5, d6, d7] }
  | _ => none }
def lawS6446AWholeRow : OpenClaim := { program := "ybulkecly", sum := "692b89633daf79d56c3bbc982d28a1933a2ebbedb9aa808fbd3b6aa80c862537", func := "example.com/countersign/countersign/pkg/state.LawS6446AWhole", spec := "lawS6446AWhole", apart := false }
def LawS6446AWholeSaid : Prop := lawS6446AWholeRow.holds Yba.pinned (OpenSpec.ofChange lawS6446AWholeSpec)

/-- ITS FALSE NEIGHBOUR: 'it returns false'. Refute it at one input. -/
def lawS6446AWholeWrong : ChangeSpec := { name := "lawS6446AWhole", fn := fun _ => fun
  | [d1, d2, d3, d4, d5, d6, d7] => { results := [.lit (.bool false)], args := [d1, d2, d3, d4, d5, d6, d7] }
  | _ => none }
def LawS6446AWholeWrongFalsely : Prop := lawS6446AWholeRow.holds Yba.pinned (OpenSpec.ofChange lawS6446AWholeWrong)

end Rows
end Go.Proofs.Ybulkecly
