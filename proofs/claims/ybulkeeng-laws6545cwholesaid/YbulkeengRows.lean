/-
  No cell of these rows narrows 'for every input' (looked for: loops, veiled, ifaces, maps, wideKeys, modest, calm, conditions, laid).
  DERIVED. THE GIVEN ROWS OF THIS SEAT. 2 by the template 'for every input the law returns true; each argument reads behind the call as it read before'; 0 by the template 'total and deterministic' (their statements: YbulkeengTotals.lean).
  GIVEN WITH THE SEED: the statements are not yours to turn. If you find one false, say at which input.
  Laid BY PROGRAM, IN A SANDBOX (cutbox-rows.mjs): the forced cells as the released guide's own fill.sh prints them over the translation 7a992a28a25fab6b… (all of the seat's roots in one cut). By AI agents, Wed Nov 11 2026. No macro, syntax, notation, axiom, sorry.
-/
import Derived.Test.YbulkeengChecked
import GoSem.Claim
import GoSem.ClaimJoined
import GoSem.ClaimMapViews
import Derived.JoinedTies
import Derived.KernelRfl
namespace Go.Proofs.Ybulkeeng
/- THE CELL 'sum', in the pinned program and in every row, IS THE sha256 OF THE DUMP (.gsa) THAT YbulkeengProg.lean LOADS. Nothing in Lean hashes anything: it is a label: what it is worth is what the hold of that sum in a sandbox is worth. -/
noncomputable def Yba.pinned : Pinned := { name := "ybulkeeng", sum := "7a992a28a25fab6b400ef8f863a61a10ffb4bcfdce35ca0ba6759f6cd1567932", checked := Yba.checked }
namespace Rows
def none {H : Type} : Left H := { results := [], args := [] }

/-- 'wirebend.LawS6545AWhole': WHATEVER THE INPUT: true; the input reads as it did. -/
def lawS6545AWholeSpec : ChangeSpec := { name := "lawS6545AWhole", fn := fun _ => fun
  | [d1, d2, d3] => { results := [.lit (.bool true)], args := [d1, d2, d3] }
  | _ => none }
def lawS6545AWholeRow : OpenClaim := { program := "ybulkeeng", sum := "7a992a28a25fab6b400ef8f863a61a10ffb4bcfdce35ca0ba6759f6cd1567932", func := "example.com/wirebend/wirebend.LawS6545AWhole", spec := "lawS6545AWhole", unfollowed := true, recurses := true, apart := false }
def LawS6545AWholeSaid : Prop := lawS6545AWholeRow.holds Yba.pinned (OpenSpec.ofChange lawS6545AWholeSpec)

/-- ITS FALSE NEIGHBOUR: 'it returns false'. Refute it at one input. -/
def lawS6545AWholeWrong : ChangeSpec := { name := "lawS6545AWhole", fn := fun _ => fun
  | [d1, d2, d3] => { results := [.lit (.bool false)], args := [d1, d2, d3] }
  | _ => none }
def LawS6545AWholeWrongFalsely : Prop := lawS6545AWholeRow.holds Yba.pinned (OpenSpec.ofChange lawS6545AWholeWrong)

/-- 'tracker.LawS6545CWhole': WHATEVER THE INPUT: true; the input reads as it did. -/
def lawS6545CWholeSpec : ChangeSpec := { name := "lawS6545CWhole", fn := fun _ => fun
  | [d1, d2, d3, d4, d5, d6] => { results := [.lit (.bool true)], args := [d1, d2, d3, d4, d5, d6] }
  | _ => none }
def lawS6545CWholeRow : OpenClaim := { program := "ybulkeeng", sum := "7a992a28a25fab6b400ef8f863a61a10ffb4bcfdce35ca0ba6759f6cd1567932", func := "example.com/wirebend/wirebend/tracker.LawS6545CWhole", spec := "lawS6545CWhole", named := ["encoding/binary.BigEndian"], apart := false }
def LawS6545CWholeSaid : Prop := lawS6545CWholeRow.holds Yba.pinned (OpenSpec.ofChange lawS6545CWholeSpec)

/-- ITS FALSE NEIGHBOUR: 'it returns false'. Refute it at one input. -/
def lawS6545CWholeWrong : ChangeSpec := { name := "lawS6545CWhole", fn := fun _ => fun
  | [d1, d2, d3, d4, d5, d6] => { results := [.lit (.bool false)], args := [d1, d2, d3, d4, d5, d6] }
  | _ => none }
def LawS6545CWholeWrongFalsely : Prop := lawS6545CWholeRow.holds Yba.pinned (OpenSpec.ofChange lawS6545CWholeWrong)

end Rows
end Go.Proofs.Ybulkeeng
