/-
  No cell of these rows narrows 'for every input' (looked for: loops, veiled, ifaces, maps, wideKeys, modest, calm, conditions, laid).
  DERIVED. THE GIVEN ROWS OF THIS SEAT. 1 by the template 'for every input the law returns true; each argument reads behind the call as it read before'; 0 by the template 'total and deterministic' (their statements: YbulkeclkTotals.lean).
  GIVEN WITH THE SEED: the statements are not yours to turn. If you find one false, say at which input.
  Laid BY PROGRAM, IN A SANDBOX (cutbox-rows.mjs): the forced cells as the released guide's own fill.sh prints them over the translation 6b0f6614d456f0b2… (all of the seat's roots in one cut). By AI agents, Wed Nov 11 2026. No macro, syntax, notation, axiom, sorry.
-/
import Derived.Test.YbulkeclkChecked
import GoSem.Claim
import GoSem.ClaimJoined
import GoSem.ClaimMapViews
import Derived.JoinedTies
import Derived.KernelRfl
namespace Go.Proofs.Ybulkeclk
/- THE CELL 'sum', in the pinned program and in every row, IS THE sha256 OF THE DUMP (.gsa) THAT YbulkeclkProg.lean LOADS. Nothing in Lean hashes anything: it is a label: what it is worth is what the hold of that sum in a sandbox is worth. -/
noncomputable def Yba.pinned : Pinned := { name := "ybulkeclk", sum := "6b0f6614d456f0b237c1795e9ea1559d70c42f57f6e26ec56a7b8b4a0cc4dcf2", checked := Yba.checked }
namespace Rows
def none {H : Type} : Left H := { results := [], args := [] }

/-- 'strata.LawS6445AWhole': WHATEVER THE INPUT: true; the input reads as it did. -/
def lawS6445AWholeSpec : ChangeSpec := { name := "lawS6445AWhole", fn := fun _ => fun
  | [d1, d2, d3, d4] => { results := [.lit (.bool true)], args := [d1, d2, d3, d4] }
  | _ => none }
def lawS6445AWholeRow : OpenClaim := { program := "ybulkeclk", sum := "6b0f6614d456f0b237c1795e9ea1559d70c42f57f6e26ec56a7b8b4a0cc4dcf2", func := "example.com/strata/strata.LawS6445AWhole", spec := "lawS6445AWhole", apart := false }
def LawS6445AWholeSaid : Prop := lawS6445AWholeRow.holds Yba.pinned (OpenSpec.ofChange lawS6445AWholeSpec)

/-- ITS FALSE NEIGHBOUR: 'it returns false'. Refute it at one input. -/
def lawS6445AWholeWrong : ChangeSpec := { name := "lawS6445AWhole", fn := fun _ => fun
  | [d1, d2, d3, d4] => { results := [.lit (.bool false)], args := [d1, d2, d3, d4] }
  | _ => none }
def LawS6445AWholeWrongFalsely : Prop := lawS6445AWholeRow.holds Yba.pinned (OpenSpec.ofChange lawS6445AWholeWrong)

end Rows
end Go.Proofs.Ybulkeclk
