import Derived.Test.YbulkeenuWalkA2
namespace Go.Proofs.Ybulkeenu
open Go.RowKit
set_option linter.unusedVariables false

set_option maxHeartbeats 2000000 in
set_option maxRecDepth 100000 in
theorem walk_yes_tt (a0 a1 : Int) (a3 : Bool) (a4 a5 a6 : Int) (a7 a8 : Bool) (w : World) :
    Calls Yba.prog 3 #[.int .i64 a0, .int .i64 a1, .bool true, .bool a3, .int .i64 a4, .int .i64 a5, .int .i64 a6, .bool a7, .bool a8, .bool true] w fun e w' => e = .returned (.bool true) ∧ Below w.heap.size w w' := by
  have e1 := e30; have e2 := q30; have e3 := q43; have e4 := e34; have e5 := e27; have e6 := q45; have e7 := n32; have e8 := n55; have e9 := n45; have e10 := n27
  have heq : (wrap64 (a0 + 1) == wrap64 (a0 + 1)) = true := by simp
  go_enter Yba.func3, Yba.ntmps3
  go_wp2_with fail
  refine (sub5_yes (w.heap.size + 1 + 1 + 1 + 1) (w.heap.size + 1 + 1) (w.heap.size + 1) (w.heap.size + 1 + 1 + 1 + 1 + 1 + 1) (some ⟨w.heap.size + 1 + 1 + 1, 0, none⟩) (some ⟨w.heap.size, 0, none⟩) (some ⟨w.heap.size + 1 + 1 + 1 + 1 + 1, 0, none⟩) a7 a6 a0 (wrap64 (a0 + 1)) _ heq (by omega) (by omega) (by omega) (by omega) (by omega) (by simp) (by simp [go_sem]) (by simp [go_sem]) (by simp [go_sem]) (by simp [go_sem]) (by simp [go_sem]) (by simp [go_sem]) (by simp [go_sem]) (by simp [go_sem]) (by simp [go_sem]) (by simp [go_sem]) (by simp [go_sem]) (by simp [go_sem]) (by simp [go_sem]) (by simp [go_sem]) (by simp [go_sem])).mono ?_
  rintro e w5 ⟨q, rfl, hw5⟩
  have g0 : w5.cell? ⟨w.heap.size + 1 + 1 + 1 + 1, 0, none⟩ = some (.pointer (some ⟨w.heap.size + 1 + 1, 0, none⟩)) := by rw [hw5]; simp [go_sem]
  have g1 : w5.cell? ⟨w.heap.size + 1 + 1 + 1 + 1, 1, none⟩ = some (.bool a3) := by rw [hw5]; simp [go_sem]
  have g2 : w5.cell? ⟨w.heap.size + 1 + 1 + 1 + 1, 2, none⟩ = some (.int .i64 a4) := by rw [hw5]; simp [go_sem]
  have g3 : w5.cell? ⟨w.heap.size + 1 + 1 + 1 + 1, 3, none⟩ = some (.int .i64 (wrap64 (a0 + 1))) := by rw [hw5]; simp [go_sem]
  have g4 : w5.cell? ⟨w.heap.size + 1 + 1 + 1 + 1, 4, none⟩ = some (.pointer (some ⟨w.heap.size + 1 + 1 + 1 + 1 + 1 + 1 + 1, 0, none⟩)) := by rw [hw5]; simp [go_sem]
  have g5 : w5.cell? ⟨w.heap.size + 1 + 1, 4, none⟩ = some (.int .i64 (wrap64 (a0 + 1))) := by rw [hw5]; simp [go_sem]
  have g6 : w5.cell? ⟨w.heap.size + 1 + 1, 3, none⟩ = some (.iface 25 (.pointer (some ⟨w.heap.size + 1, 0, none⟩))) := by rw [hw5]; simp [go_sem]
  have g7 : w5.cell? ⟨w.heap.size + 1 + 1, 2, none⟩ = some (.nilIface) := by rw [hw5]; simp [go_sem]
  have g8 : w5.cell? ⟨w.heap.size + 1 + 1, 6, none⟩ = some (.pointer none) := by rw [hw5]; simp [go_sem]
  have g9 : w5.cell? ⟨w.heap.size + 1 + 1 + 1 + 1 + 1 + 1, 0, none⟩ = some (.int .i64 a5) := by rw [hw5]; simp [go_sem]
  have g10 : w5.cell? ⟨w.heap.size + 1 + 1 + 1 + 1 + 1 + 1, 1, none⟩ = some (.int .i64 a6) := by rw [hw5]; simp [go_sem]
  have g11 : w5.cell? ⟨w.heap.size + 1 + 1 + 1 + 1 + 1 + 1, 2, none⟩ = some (.iface 51 (.pointer (some ⟨w.heap.size + 1 + 1 + 1 + 1 + 1, 0, none⟩))) := by rw [hw5]; simp [go_sem]
  have g12 : w5.cell? ⟨w.heap.size + 1 + 1 + 1 + 1 + 1 + 1, 3, none⟩ = some (.nilIface) := by rw [hw5]; simp [go_sem]
  have g13 : w5.cell? ⟨w.heap.size + 1 + 1 + 1 + 1 + 1 + 1, 4, none⟩ = some (.bool a7) := by rw [hw5]; simp [go_sem]
  have g14 : w5.cell? ⟨w.heap.size + 1 + 1 + 1 + 1 + 1 + 1, 5, none⟩ = some (.bool a8) := by rw [hw5]; simp [go_sem]
  have g15 : w5.cell? ⟨w.heap.size + 1 + 1 + 1, 3, none⟩ = some (.int .i64 3) := by rw [hw5]; simp [go_sem]
  have g16 : w5.cell? ⟨w.heap.size + 1 + 1 + 1, 0, none⟩ = some (.pointer none) := by rw [hw5]; simp [go_sem]
  have g17 : w5.cell? ⟨w.heap.size + 1 + 1 + 1, 1, none⟩ = some (.nilIface) := by rw [hw5]; simp [go_sem]
  have g18 : w5.cell? ⟨w.heap.size + 1 + 1 + 1, 2, none⟩ = some (.bool false) := by rw [hw5]; simp [go_sem]
  have g19 : w5.cell? ⟨w.heap.size + 1, 0, none⟩ = some (.int .i64 1) := by rw [hw5]; simp [go_sem]
  have g20 : w5.cell? ⟨w.heap.size + 1, 1, none⟩ = some (.iface 51 (.pointer (some ⟨w.heap.size + 1 + 1 + 1 + 1 + 1, 0, none⟩))) := by rw [hw5]; simp [go_sem]
  have g21 : w5.cell? ⟨w.heap.size + 1 + 1 + 1 + 1 + 1 + 1 + 1, 0, none⟩ = some (.pointer (some ⟨w.heap.size + 1 + 1, 0, none⟩)) := by rw [hw5]; simp [go_sem]
  have g22 : w5.cell? ⟨w.heap.size + 1 + 1 + 1 + 1 + 1 + 1 + 1, 1, none⟩ = some (.iface 22 (.pointer (some ⟨w.heap.size, 0, none⟩))) := by rw [hw5]; simp [go_sem]
  have g23 : w5.cell? ⟨w.heap.size + 1 + 1 + 1 + 1 + 1 + 1 + 1, 2, none⟩ = some (.bool a7) := by rw [hw5]; simp [go_sem]
  have g24 : w5.cell? ⟨w.heap.size + 1 + 1 + 1 + 1 + 1 + 1 + 1, 3, none⟩ = some (.int .i64 a6) := by rw [hw5]; simp [go_sem]
  have hx : (binOp .eql 43 (.pointer (some ⟨w.heap.size + 1 + 1 + 1 + 1 + 1 + 1 + 1, 0, none⟩)) (.pointer (some ⟨w.heap.size + 1 + 1 + 1, 0, none⟩))).run Yba.prog w5 = .ok (.bool false) w5 := by
    refine x43 w5 (ca := #[.pointer (some ⟨w.heap.size + 1 + 1, 0, none⟩), .iface 22 (.pointer (some ⟨w.heap.size, 0, none⟩)), .bool a7, .int .i64 a6]) (ta := 47) (cb := #[.pointer none, .nilIface, .bool false, .int .i64 3]) (tb := 47) ?_ ?_ ?_
    · intro e; injection e with e _; omega
    · exact (two_blocks' w _ _ _ _ _ _ _ _ _ _ _ _ q w5 hw5).1
    · exact (two_blocks' w _ _ _ _ _ _ _ _ _ _ _ _ q w5 hw5).2
  have L5 : Below w.heap.size w w5 := by
    rw [hw5]
    exact dN ((((((seven w _ _ _ _ _ _ _ 0).setCell (by simp; try omega) _).setCell (by simp; try omega) _).setCell (by simp; try omega) _).alloc (by simp; try omega) _).setCell (by simp; try omega) _)
  clear hw5
  go_wp2
  go_ret
  exact ⟨rfl, L5⟩
set_option maxHeartbeats 2000000 in
set_option maxRecDepth 100000 in
theorem walk_yes_ft (a0 a1 : Int) (a3 : Bool) (a4 a5 a6 : Int) (a7 a8 : Bool) (w : World) :
    Calls Yba.prog 3 #[.int .i64 a0, .int .i64 a1, .bool true, .bool a3, .int .i64 a4, .int .i64 a5, .int .i64 a6, .bool a7, .bool a8, .bool false] w fun e w' => e = .returned (.bool true) ∧ Below w.heap.size w w' := by
  have e1 := e30; have e2 := q30; have e3 := q43; have e4 := e34; have e5 := e27; have e6 := q45; have e7 := n32; have e8 := n55; have e9 := n45; have e10 := n27
  have heq : (wrap64 (a0 + 1) == wrap64 (a0 + 1)) = true := by simp
  go_enter Yba.func3, Yba.ntmps3
  go_wp2_with fail
  refine (sub5_yes (w.heap.size + 1 + 1 + 1) (w.heap.size + 1 + 1) (w.heap.size + 1) (w.heap.size + 1 + 1 + 1 + 1 + 1) (none) (some ⟨w.heap.size, 0, none⟩) (some ⟨w.heap.size + 1 + 1 + 1 + 1, 0, none⟩) a7 a6 a0 (wrap64 (a0 + 1)) _ heq (by omega) (by omega) (by omega) (by omega) (by omega) (by simp) (by simp [go_sem]) (by simp [go_sem]) (by simp [go_sem]) (by simp [go_sem]) (by simp [go_sem]) (by simp [go_sem]) (by simp [go_sem]) (by simp [go_sem]) (by simp [go_sem]) (by simp [go_sem]) (by simp [go_sem]) (by simp [go_sem]) (by simp [go_sem]) (by simp [go_sem]) (by simp [go_sem])).mono ?_
  rintro e w5 ⟨q, rfl, hw5⟩
  have g0 : w5.cell? ⟨w.heap.size + 1 + 1 + 1, 0, none⟩ = some (.pointer (some ⟨w.heap.size + 1 + 1, 0, none⟩)) := by rw [hw5]; simp [go_sem]
  have g1 : w5.cell? ⟨w.heap.size + 1 + 1 + 1, 1, none⟩ = some (.bool a3) := by rw [hw5]; simp [go_sem]
  have g2 : w5.cell? ⟨w.heap.size + 1 + 1 + 1, 2, none⟩ = some (.int .i64 a4) := by rw [hw5]; simp [go_sem]
  have g3 : w5.cell? ⟨w.heap.size + 1 + 1 + 1, 3, none⟩ = some (.int .i64 (wrap64 (a0 + 1))) := by rw [hw5]; simp [go_sem]
  have g4 : w5.cell? ⟨w.heap.size + 1 + 1 + 1, 4, none⟩ = some (.pointer (some ⟨w.heap.size + 1 + 1 + 1 + 1 + 1 + 1, 0, none⟩)) := by rw [hw5]; simp [go_sem]
  have g5 : w5.cell? ⟨w.heap.size + 1 + 1, 4, none⟩ = some (.int .i64 (wrap64 (a0 + 1))) := by rw [hw5]; simp [go_sem]
  have g6 : w5.cell? ⟨w.heap.size + 1 + 1, 3, none⟩ = some (.iface 25 (.pointer (some ⟨w.heap.size + 1, 0, none⟩))) := by rw [hw5]; simp [go_sem]
  have g7 : w5.cell? ⟨w.heap.size + 1 + 1, 2, none⟩ = some (.nilIface) := by rw [hw5]; simp [go_sem]
  have g8 : w5.cell? ⟨w.heap.size + 1 + 1, 6, none⟩ = some (.pointer none) := by rw [hw5]; simp [go_sem]
  have g9 : w5.cell? ⟨w.heap.size + 1 + 1 + 1 + 1 + 1, 0, none⟩ = some (.int .i64 a5) := by rw [hw5]; simp [go_sem]
  have g10 : w5.cell? ⟨w.heap.size + 1 + 1 + 1 + 1 + 1, 1, none⟩ = some (.int .i64 a6) := by rw [hw5]; simp [go_sem]
  have g11 : w5.cell? ⟨w.heap.size + 1 + 1 + 1 + 1 + 1, 2, none⟩ = some (.iface 51 (.pointer (some ⟨w.heap.size + 1 + 1 + 1 + 1, 0, none⟩))) := by rw [hw5]; simp [go_sem]
  have g12 : w5.cell? ⟨w.heap.size + 1 + 1 + 1 + 1 + 1, 3, none⟩ = some (.nilIface) := by rw [hw5]; simp [go_sem]
  have g13 : w5.cell? ⟨w.heap.size + 1 + 1 + 1 + 1 + 1, 4, none⟩ = some (.bool a7) := by rw [hw5]; simp [go_sem]
  have g14 : w5.cell? ⟨w.heap.size + 1 + 1 + 1 + 1 + 1, 5, none⟩ = some (.bool a8) := by rw [hw5]; simp [go_sem]
  have g15 : w5.cell? ⟨w.heap.size + 1, 0, none⟩ = some (.int .i64 1) := by rw [hw5]; simp [go_sem]
  have g16 : w5.cell? ⟨w.heap.size + 1, 1, none⟩ = some (.iface 51 (.pointer (some ⟨w.heap.size + 1 + 1 + 1 + 1, 0, none⟩))) := by rw [hw5]; simp [go_sem]
  have g17 : w5.cell? ⟨w.heap.size + 1 + 1 + 1 + 1 + 1 + 1, 0, none⟩ = some (.pointer (some ⟨w.heap.size + 1 + 1, 0, none⟩)) := by rw [hw5]; simp [go_sem]
  have g18 : w5.cell? ⟨w.heap.size + 1 + 1 + 1 + 1 + 1 + 1, 1, none⟩ = some (.iface 22 (.pointer (some ⟨w.heap.size, 0, none⟩))) := by rw [hw5]; simp [go_sem]
  have g19 : w5.cell? ⟨w.heap.size + 1 + 1 + 1 + 1 + 1 + 1, 2, none⟩ = some (.bool a7) := by rw [hw5]; simp [go_sem]
  have g20 : w5.cell? ⟨w.heap.size + 1 + 1 + 1 + 1 + 1 + 1, 3, none⟩ = some (.int .i64 a6) := by rw [hw5]; simp [go_sem]
  have L5 : Below w.heap.size w w5 := by
    rw [hw5]
    exact dN ((((((six w _ _ _ _ _ _ 0).setCell (by simp; try omega) _).setCell (by simp; try omega) _).setCell (by simp; try omega) _).alloc (by simp; try omega) _).setCell (by simp; try omega) _)
  clear hw5
  go_wp2
  go_ret
  exact ⟨rfl, L5⟩
end Go.Proofs.Ybulkeenu
