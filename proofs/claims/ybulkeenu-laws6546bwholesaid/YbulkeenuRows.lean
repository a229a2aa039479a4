/-
  No cell of these rows narrows 'for every input' (looked for: loops, veiled, ifaces, maps, wideKeys, modest, calm, conditions, laid).
  DERIVED. THE GIVEN ROWS OF THIS SEAT. 2 by the template 'for every input the law returns true; each argument reads behind the call as it read before'; 0 by the template 'total and deterministic' (their statements: YbulkeenuTotals.lean).
  GIVEN WITH THE SEED: the statements are not yours to turn. If you find one false, say at which input.
  Laid BY PROGRAM, IN A SANDBOX (cutbox-rows.mjs): the forced cells as the released guide's own fill.sh prints them over the translation f74f2e2107a2c838… (all of the seat's roots in one cut). By AI agents, Wed Nov 11 2026. No macro, syntax, notation, axiom, sorry.
-/
import Derived.Test.YbulkeenuChecked
import GoSem.Claim
import GoSem.ClaimJoined
import GoSem.ClaimMapViews
import Derived.JoinedTies
import Derived.KernelRfl
namespace Go.Proofs.Ybulkeenu
/- THE CELL 'sum', in the pinned program and in every row, IS THE sha256 OF THE DUMP (.gsa) THAT YbulkeenuProg.lean LOADS. Nothing in Lean hashes anything: it is a label: what it is worth is what the hold of that sum in a sandbox is worth. -/
noncomputable def Yba.pinned : Pinned := { name := "ybulkeenu", sum := "f74f2e2107a2c838629966e5c3735a942d1965175799340a32baf5d694c0ae25", checked := Yba.checked }
namespace Rows
def none {H : Type} : Left H := { results := [], args := [] }

/-- 'interlace.LawS6546AWhole': WHATEVER THE INPUT: true; the input reads as it did. -/
def lawS6546AWholeSpec : ChangeSpec := { name := "lawS6546AWhole", fn := fun _ => fun
  | [d1, d2, d3, d4, d5, d6, d7, d8, d9, d10] => { results := [.lit (.bool true)], args := [d1, d2, d3, d4, d5, d6, d7, d8, d9, d10] }
  | _ => none }
def lawS6546AWholeRow : OpenClaim := { program := "ybulkeenu", sum := "f74f2e2107a2c838629966e5c3735a942d1965175799340a32baf5d694c0ae25", func := "example.com/interlace/interlace.LawS6546AWhole", spec := "lawS6546AWhole", unfollowed := true, recurses := true, plainKeys := false, apart := false }
def LawS6546AWholeSaid : Prop := lawS6546AWholeRow.holds Yba.pinned (OpenSpec.ofChange lawS6546AWholeSpec)

/-- ITS FALSE NEIGHBOUR: 'it returns false'. Refute it at one input. -/
def lawS6546AWholeWrong : ChangeSpec := { name := "lawS6546AWhole", fn := fun _ => fun
  | [d1, d2, d3, d4, d5, d6, d7, d8, d9, d10] => { results := [.lit (.bool false)], args := [d1, d2, d3, d4, d5, d6, d7, d8, d9, d10] }
  | _ => none }
def LawS6546AWholeWrongFalsely : Prop := lawS6546AWholeRow.holds Yba.pinned (OpenSpec.ofChange lawS6546AWholeWrong)

/-- 'locking.LawS6546BWhole': WHATEVER THE INPUT: true; the input reads as it did. -/
def lawS6546BWholeSpec : ChangeSpec := { name := "lawS6546BWhole", fn := fun _ => fun
  | [d1, d2, d3] => { results := [.lit (.bool true)], args := [d1, d2, d3] }
  | _ => none }
def lawS6546BWholeRow : OpenClaim := { program := "ybulkeenu", sum := "f74f2e2107a2c838629966e5c3735a942d1965175799340a32baf5d694c0ae25", func := "example.com/interlace/interlace/internal/locking.LawS6546BWhole", spec := "lawS6546BWhole", plainKeys := false, apart := false }
def LawS6546BWholeSaid : Prop := lawS6546BWholeRow.holds Yba.pinned (OpenSpec.ofChange lawS6546BWholeSpec)

/-- ITS FALSE NEIGHBOUR: 'it returns false'. Refute it at one input. -/
def lawS6546BWholeWrong : ChangeSpec := { name := "lawS6546BWhole", fn := fun _ => fun
  | [d1, d2, d3] => { results := [.lit (.bool false)], args := [d1, d2, d3] }
  | _ => none }
def LawS6546BWholeWrongFalsely : Prop := lawS6546BWholeRow.holds Yba.pinned (OpenSpec.ofChange lawS6546BWholeWrong)

end Rows
end Go.Proofs.Ybulkeenu
