/-
  DERIVED. GIVEN WITH THE SEED: THE CARDS: each row of YbulkeeoiDoorRows.lean that lists a variable, with what it lists TIED to the program's text (the seventh form; the later family's looks); each row that meets fmt, with fmt's text TOLD by the authors' own Lean function (tested against real Go, not proved from fmt's source: count such statements apart). THE CARD IS WHAT COUNTS. Prove the row's statement (the work); the ties are given (YbulkeeoiDoorTie.lean); close each card by the builder's one call (the guide's Derived/Test/ToyasCard.lean, 'card_holds'). Laid BY PROGRAM, IN A SANDBOX (cutbox-door.mjs). By AI agents, Wed Nov 11 2026. No macro, syntax, notation, axiom, sorry.
-/
import Derived.Test.YbulkeeoiDoorRows
import GoSem.ClaimSeven
namespace Go.Proofs.YbulkeeoiDoor
namespace Rows

/-- THE TIED CARD OF 'scscf.LawS6547CWhole'. -/
def lawS6547CWholeCard : Claim7 := { stood := { row := lawS6547CWholeRow, standIns := [], harness := (true, "b4fb7fbb4a2d6f838300d7a3d27837e83a5bde4110718cffbcf33465a5940447"), looks := false }, kinds := [], alts := [], laidByText := true, laidKinds := [.data, .data, .data], laidTests := true, laidLooks := .later }
def LawS6547CWholeCardSaid : Prop := Claim7.holds Ybad.pinned (.plain (OpenSpec.ofChange lawS6547CWholeSpec)) lawS6547CWholeCard
end Rows
end Go.Proofs.YbulkeeoiDoor
