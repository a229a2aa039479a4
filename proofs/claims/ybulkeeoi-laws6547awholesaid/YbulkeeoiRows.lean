/-
  No cell of these rows narrows 'for every input' (looked for: loops, veiled, ifaces, maps, wideKeys, modest, calm, conditions, laid).
  DERIVED. THE GIVEN ROWS OF THIS SEAT. 1 by the template 'for every input the law returns true; each argument reads behind the call as it read before'; 0 by the template 'total and deterministic' (their statements: YbulkeeoiTotals.lean).
  GIVEN WITH THE SEED: the statements are not yours to turn. If you find one false, say at which input.
  Laid BY PROGRAM, IN A SANDBOX (cutbox-rows.mjs): the forced cells as the released guide's own fill.sh prints them over the translation 9f55194bbdfe240c… (all of the seat's roots in one cut). By AI agents, Wed Nov 11 2026. No macro, syntax, notation, axiom, sorry.
-/
import Derived.Test.YbulkeeoiChecked
import GoSem.Claim
import GoSem.ClaimJoined
import GoSem.ClaimMapViews
import Derived.JoinedTies
import Derived.KernelRfl
namespace Go.Proofs.Ybulkeeoi
/- THE CELL 'sum', in the pinned program and in every row, IS THE sha256 OF THE DUMP (.gsa) THAT YbulkeeoiProg.lean LOADS. Nothing in Lean hashes anything: it is a label: what it is worth is what the hold of that sum in a sandbox is worth. -/
noncomputable def Yba.pinned : Pinned := { name := "ybulkeeoi", sum := "9f55194bbdfe240c35a2d9f15b0dbd7d6724afbbd83938d3580440671e107968", checked := Yba.checked }
namespace Rows
def none {H : Type} : Left H := { results := [], args := [] }

/-- 'scscf.LawS6547AWhole': WHATEVER THE INPUT: true; the input reads as it did. -/
def lawS6547AWholeSpec : ChangeSpec := { name := "lawS6547AWhole", fn := fun _ => fun
  | [d1, d2, d3, d4] => { results := [.lit (.bool true)], args := [d1, d2, d3, d4] }
  | _ => none }
def lawS6547AWholeRow : OpenClaim := { program := "ybulkeeoi", sum := "9f55194bbdfe240c35a2d9f15b0dbd7d6724afbbd83938d3580440671e107968", func := "example.com/tidebind/tidebind/scscf.LawS6547AWhole", spec := "lawS6547AWhole", plainKeys := false, apart := false }
def LawS6547AWholeSaid : Prop := lawS6547AWholeRow.holds Yba.pinned (OpenSpec.ofChange lawS6547AWholeSpec)

/-- ITS FALSE NEIGHBOUR: 'it returns false'. Refute it at one input. -/
def lawS6547AWholeWrong : ChangeSpec := { name := "lawS6547AWhole", fn := fun _ => fun
  | [d1, d2, d3, d4] => { results := [.lit (.bool false)], args := [d1, d2, d3, d4] }
  | _ => none }
def LawS6547AWholeWrongFalsely : Prop := lawS6547AWholeRow.holds Yba.pinned (OpenSpec.ofChange lawS6547AWholeWrong)

end Rows
end Go.Proofs.Ybulkeeoi
