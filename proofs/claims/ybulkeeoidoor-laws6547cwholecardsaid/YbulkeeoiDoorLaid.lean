import Derived.Test.YbulkeeoiDoorOpen3
import Derived.LaidMore
import Derived.Stop.Joined
import Derived.Lib.LaidTab
namespace Go.Proofs.YbulkeeoiDoor
open Go.ChangeShapes Go.WideShapes Go.ChangeAt Go.RowKit
set_option linter.unusedVariables false

abbrev laid3 : List (String × DataW Unit) := Rows.lawS6547CWholeRow.laid

theorem gPow : Ybad.prog.globalNamed Ybad.powName = some 0 := by kernel_rfl
theorem tPow : (Ybad.prog.globals[0]?).map (·.type) = some 130 := by kernel_rfl
theorem cells130 : Ybad.prog.cellsOf 130 = 20 := by kernel_rfl
theorem cellsU64 : Ybad.prog.cellsOf 30 = 1 := by kernel_rfl
theorem pow_datum : (Rows.laid_internal_strconv_uint64pow10 : DataW Unit) = Lib.tabData .u64 Lib.pow10Tab := by rfl

/-- The door's own heap meets the condition. -/
theorem door_met (os : Os) (args : Array Value) : laidMetH Ybad.prog laid3 ((World.doorLaid Ybad.prog 400 os).forCall (fun _ _ => 0) ⟨#[], args, []⟩).memory :=
  laidMetH_of_parts3 (fuel := 8) (laidMet_of_run' 8 (by kernel_rfl) (by kernel_rfl)) (by kernel_rfl) (by kernel_rfl)

theorem of_laid {W : World} (h : laidMetH Ybad.prog laid3 W) : Lib.TabIs Ybad.prog W Ybad.powName .u64 Lib.pow10Tab := by
  rw [MakeChecks.laidMetH_plain _ _ _ (by kernel_rfl)] at h
  obtain ⟨ps, ⟨g0, t0, cs0, f0, p0, q0, hg0, ht0, hv0, hd0, ⟨g1, t1, cs1, f1, p1, q1, hg1, ht1, hv1, hd1, ⟨g2, t2, cs2, f2, p2, q2, hg2, ht2, hv2, hd2, _, _⟩, _⟩, _⟩, _, _⟩ := h
  obtain rfl := Option.some.inj (gPow.symm.trans hg2)
  obtain rfl := Option.some.inj (tPow.symm.trans ht2)
  rw [pow_datum] at hd2
  unfold Lib.TabIs
  refine Eq.trans (show World.var? Ybad.prog W Ybad.powName = some cs2 from hv2) ?_
  rw [← Lib.cells_of_tab Ybad.underlying130 Ybad.underlying30 cellsU64 cells130 hd2]
end Go.Proofs.YbulkeeoiDoor
