/-
  No cell of these rows narrows 'for every input' (looked for: loops, veiled, ifaces, maps, wideKeys, modest, calm, conditions, laid).
  DERIVED. THE GIVEN ROWS OF THIS SEAT. 3 by the template 'for every input the law returns true; each argument reads behind the call as it read before'; 0 by the template 'total and deterministic' (their statements: YbulkeepkTotals.lean).
  GIVEN WITH THE SEED: the statements are not yours to turn. If you find one false, say at which input.
  Laid BY PROGRAM, IN A SANDBOX (cutbox-rows.mjs): the forced cells as the released guide's own fill.sh prints them over the translation 13a36f77c10349e2… (all of the seat's roots in one cut). By AI agents, Wed Nov 11 2026. No macro, syntax, notation, axiom, sorry.
-/
import Derived.Test.YbulkeepkChecked
import GoSem.Claim
import GoSem.ClaimJoined
import GoSem.ClaimMapViews
import Derived.JoinedTies
import Derived.KernelRfl
namespace Go.Proofs.Ybulkeepk
/- THE CELL 'sum', in the pinned program and in every row, IS THE sha256 OF THE DUMP (.gsa) THAT YbulkeepkProg.lean LOADS. Nothing in Lean hashes anything: it is a label: what it is worth is what the hold of that sum in a sandbox is worth. -/
noncomputable def Yba.pinned : Pinned := { name := "ybulkeepk", sum := "13a36f77c10349e294ed83a241167cb453ea247a69fbd5312b00832a4aa48714", checked := Yba.checked }
namespace Rows
def none {H : Type} : Left H := { results := [], args := [] }

/-- 'precedent.LawS6549AWhole': WHATEVER THE INPUT: true; the input reads as it did. -/
def lawS6549AWholeSpec : ChangeSpec := { name := "lawS6549AWhole", fn := fun _ => fun
  | [d1, d2, d3, d4] => { results := [.lit (.bool true)], args := [d1, d2, d3, d4] }
  | _ => none }
def lawS6549AWholeRow : OpenClaim := { program := "ybulkeepk", sum := "13a36f77c10349e294ed83a241167cb453ea247a69fbd5312b00832a4aa48714", func := "example.com/precedent/precedent.LawS6549AWhole", spec := "lawS6549AWhole", apart := false }
def LawS6549AWholeSaid : Prop := lawS6549AWholeRow.holds Yba.pinned (OpenSpec.ofChange lawS6549AWholeSpec)

/-- ITS FALSE NEIGHBOUR: 'it returns false'. Refute it at one input. -/
def lawS6549AWholeWrong : ChangeSpec := { name := "lawS6549AWhole", fn := fun _ => fun
  | [d1, d2, d3, d4] => { results := [.lit (.bool false)], args := [d1, d2, d3, d4] }
  | _ => none }
def LawS6549AWholeWrongFalsely : Prop := lawS6549AWholeRow.holds Yba.pinned (OpenSpec.ofChange lawS6549AWholeWrong)

/-- 'precedent.LawS6549BWhole': WHATEVER THE INPUT: true; the input reads as it did. -/
def lawS6549BWholeSpec : ChangeSpec := { name := "lawS6549BWhole", fn := fun _ => fun
  | [d1, d2] => { results := [.lit (.bool true)], args := [d1, d2] }
  | _ => none }
def lawS6549BWholeRow : OpenClaim := { program := "ybulkeepk", sum := "13a36f77c10349e294ed83a241167cb453ea247a69fbd5312b00832a4aa48714", func := "example.com/precedent/precedent.LawS6549BWhole", spec := "lawS6549BWhole", apart := false }
def LawS6549BWholeSaid : Prop := lawS6549BWholeRow.holds Yba.pinned (OpenSpec.ofChange lawS6549BWholeSpec)

/-- ITS FALSE NEIGHBOUR: 'it returns false'. Refute it at one input. -/
def lawS6549BWholeWrong : ChangeSpec := { name := "lawS6549BWhole", fn := fun _ => fun
  | [d1, d2] => { results := [.lit (.bool false)], args := [d1, d2] }
  | _ => none }
def LawS6549BWholeWrongFalsely : Prop := lawS6549BWholeRow.holds Yba.pinned (OpenSpec.ofChange lawS6549BWholeWrong)

/-- 'graph.LawS6549CWhole': WHATEVER THE INPUT: true; the input reads as it did. -/
def lawS6549CWholeSpec : ChangeSpec := { name := "lawS6549CWhole", fn := fun _ => fun
  | [d1, d2, d3, d4] => { results := [.lit (.bool true)], args := [d1, d2, d3, d4] }
  | _ => none }
def lawS6549CWholeRow : OpenClaim := { program := "ybulkeepk", sum := "13a36f77c10349e294ed83a241167cb453ea247a69fbd5312b00832a4aa48714", func := "example.com/precedent/precedent/internal/graph.LawS6549CWhole", spec := "lawS6549CWhole", inPlace := ["math.Float64bits"], apart := false }
def LawS6549CWholeSaid : Prop := lawS6549CWholeRow.holds Yba.pinned (OpenSpec.ofChange lawS6549CWholeSpec)

/-- ITS FALSE NEIGHBOUR: 'it returns false'. Refute it at one input. -/
def lawS6549CWholeWrong : ChangeSpec := { name := "lawS6549CWhole", fn := fun _ => fun
  | [d1, d2, d3, d4] => { results := [.lit (.bool false)], args := [d1, d2, d3, d4] }
  | _ => none }
def LawS6549CWholeWrongFalsely : Prop := lawS6549CWholeRow.holds Yba.pinned (OpenSpec.ofChange lawS6549CWholeWrong)

end Rows
end Go.Proofs.Ybulkeepk
