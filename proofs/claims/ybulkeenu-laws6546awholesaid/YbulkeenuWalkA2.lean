import Derived.Test.YbulkeenuWalkA
namespace Go.Proofs.Ybulkeenu
open Go.RowKit
set_option linter.unusedVariables false

theorem hset (W : World) (b o k : Nat) (v : Value) (h : k ≠ b) : (W.setCell ⟨b, o, none⟩ v).heap[k]? = W.heap[k]? := Below.heap_setCell _ _ _ _ h
theorem two_blocks (w : World) (o1 o2 o3 o4 o5 o6 o7 o8 : Obj) (v1 v2 v3 v4 : Value) :
    (((((((((((((w.alloc o1).alloc o2).alloc o3).alloc o4).alloc o5).alloc o6).alloc o7).setCell ⟨w.heap.size + 1 + 1 + 1 + 1, 3, none⟩ v1).setCell ⟨w.heap.size + 1, 0, none⟩ v2).setCell ⟨w.heap.size + 1, 1, none⟩ v3).alloc o8).setCell ⟨w.heap.size + 1 + 1 + 1 + 1, 4, none⟩ v4).heap[w.heap.size + 1 + 1 + 1 + 1 + 1 + 1 + 1]? = some o8) ∧
    (((((((((((((w.alloc o1).alloc o2).alloc o3).alloc o4).alloc o5).alloc o6).alloc o7).setCell ⟨w.heap.size + 1 + 1 + 1 + 1, 3, none⟩ v1).setCell ⟨w.heap.size + 1, 0, none⟩ v2).setCell ⟨w.heap.size + 1, 1, none⟩ v3).alloc o8).setCell ⟨w.heap.size + 1 + 1 + 1 + 1, 4, none⟩ v4).heap[w.heap.size + 1 + 1 + 1]? = some o4) := by
  have sz : ∀ (W : World) (o : Obj), (W.alloc o).heap.size = W.heap.size + 1 := fun W o => by simp
  have sc : ∀ (W : World) (p : Addr) (v : Value), (W.setCell p v).heap.size = W.heap.size := fun W p v => by simp [World.setCell]
  constructor
  · refine (hset _ _ _ _ _ (by omega)).trans ?_
    exact top _ _ _ (by simp only [sz, sc])
  · refine (hset _ _ _ _ _ (by omega)).trans ?_
    refine (Below.heap_alloc _ _ _ (by simp only [sz, sc]; omega)).trans ?_
    refine (hset _ _ _ _ _ (by omega)).trans ?_
    refine (hset _ _ _ _ _ (by omega)).trans ?_
    refine (hset _ _ _ _ _ (by omega)).trans ?_
    refine (Below.heap_alloc _ _ _ (by simp only [sz]; omega)).trans ?_
    refine (Below.heap_alloc _ _ _ (by simp only [sz]; omega)).trans ?_
    refine (Below.heap_alloc _ _ _ (by simp only [sz]; omega)).trans ?_
    exact top _ _ _ (by simp only [sz])
theorem two_blocks' (w : World) (o1 o2 o3 o4 o5 o6 o7 o8 : Obj) (v1 v2 v3 v4 : Value) (q : Nat) (w5 : World) (h : w5 = (((((((((((((w.alloc o1).alloc o2).alloc o3).alloc o4).alloc o5).alloc o6).alloc o7).setCell ⟨w.heap.size + 1 + 1 + 1 + 1, 3, none⟩ v1).setCell ⟨w.heap.size + 1, 0, none⟩ v2).setCell ⟨w.heap.size + 1, 1, none⟩ v3).alloc o8).setCell ⟨w.heap.size + 1 + 1 + 1 + 1, 4, none⟩ v4)).drewN q) :
    (w5.heap[w.heap.size + 1 + 1 + 1 + 1 + 1 + 1 + 1]? = some o8) ∧ (w5.heap[w.heap.size + 1 + 1 + 1]? = some o4) := by
  have e : ∀ (X : World) (k : Nat), (X.drewN q).heap[k]? = X.heap[k]? := fun _ _ => rfl
  have K := two_blocks w o1 o2 o3 o4 o5 o6 o7 o8 v1 v2 v3 v4
  constructor
  · rw [h, e]; exact K.1
  · rw [h, e]; exact K.2
set_option maxHeartbeats 2000000 in
set_option maxRecDepth 100000 in
theorem walk_yes_tf (a0 a1 : Int) (a3 : Bool) (a4 a5 a6 : Int) (a7 a8 : Bool) (w : World) (heq : (wrap64 (a0 + 1) == a1) = true) :
    Calls Yba.prog 3 #[.int .i64 a0, .int .i64 a1, .bool false, .bool a3, .int .i64 a4, .int .i64 a5, .int .i64 a6, .bool a7, .bool a8, .bool true] w fun e w' => e = .returned (.bool true) ∧ Below w.heap.size w w' := by
  have e1 := e30; have e2 := q30; have e3 := q43; have e4 := e34; have e5 := e27; have e6 := q45; have e7 := n32; have e8 := n55; have e9 := n45; have e10 := n27
  go_enter Yba.func3, Yba.ntmps3
  go_wp2_with fail
  refine (sub5_yes (w.heap.size + 1 + 1 + 1 + 1) (w.heap.size + 1 + 1) (w.heap.size + 1) (w.heap.size + 1 + 1 + 1 + 1 + 1 + 1) (some ⟨w.heap.size + 1 + 1 + 1, 0, none⟩) (some ⟨w.heap.size, 0, none⟩) (some ⟨w.heap.size + 1 + 1 + 1 + 1 + 1, 0, none⟩) a7 a6 a0 (a1) _ heq (by omega) (by omega) (by omega) (by omega) (by omega) (by simp) (by simp [go_sem]) (by simp [go_sem]) (by simp [go_sem]) (by simp [go_sem]) (by simp [go_sem]) (by simp [go_sem]) (by simp [go_sem]) (by simp [go_sem]) (by simp [go_sem]) (by simp [go_sem]) (by simp [go_sem]) (by simp [go_sem]) (by simp [go_sem]) (by simp [go_sem]) (by simp [go_sem])).mono ?_
  rintro e w5 ⟨q, rfl, hw5⟩
  have g0 : w5.cell? ⟨w.heap.size + 1 + 1 + 1 + 1, 0, none⟩ = some (.pointer (some ⟨w.heap.size + 1 + 1, 0, none⟩)) := by rw [hw5]; simp [go_sem]
  have g1 : w5.cell? ⟨w.heap.size + 1 + 1 + 1 + 1, 1, none⟩ = some (.bool a3) := by rw [hw5]; simp [go_sem]
  have g2 : w5.cell? ⟨w.heap.size + 1 + 1 + 1 + 1, 2, none⟩ = some (.int .i64 a4) := by rw [hw5]; simp [go_sem]
  have g3 : w5.cell? ⟨w.heap.size + 1 + 1 + 1 + 1, 3, none⟩ = some (.int .i64 (wrap64 (a0 + 1))) := by rw [hw5]; simp [go_sem]
  have g4 : w5.cell? ⟨w.heap.size + 1 + 1 + 1 + 1, 4, none⟩ = some (.pointer (some ⟨w.heap.size + 1 + 1 + 1 + 1 + 1 + 1 + 1, 0, none⟩)) := by rw [hw5]; simp [go_sem]
  have g5 : w5.cell? ⟨w.heap.size + 1 + 1, 4, none⟩ = some (.int .i64 (a1)) := by rw [hw5]; simp [go_sem]
  have g6 : w5.cell? ⟨w.heap.size + 1 + 1, 3, none⟩ = some (.iface 25 (.pointer (some ⟨w.heap.size + 1, 0, none⟩))) := by rw [hw5]; simp [go_sem]
  have g7 : w5.cell? ⟨w.heap.size + 1 + 1, 2, none⟩ = some (.nilIface) := by rw [hw5]; simp [go_sem]
  have g8 : w5.cell? ⟨w.heap.size + 1 + 1, 6, none⟩ = some (.pointer none) := by rw [hw5]; simp [go_sem]
  have g9 : w5.cell? ⟨w.heap.size + 1 + 1 + 1 + 1 + 1 + 1, 0, none⟩ = some (.int .i64 a5) := by rw [hw5]; simp [go_sem]
  have g10 : w5.cell? ⟨w.heap.size + 1 + 1 + 1 + 1 + 1 + 1, 1, none⟩ = some (.int .i64 a6) := by rw [hw5]; simp [go_sem]
  have g11 : w5.cell? ⟨w.heap.size + 1 + 1 + 1 + 1 + 1 + 1, 2, none⟩ = some (.iface 51 (.pointer (some ⟨w.heap.size + 1 + 1 + 1 + 1 + 1, 0, none⟩))) := by rw [hw5]; simp [go_sem]
  have g12 : w5.cell? ⟨w.heap.size + 1 + 1 + 1 + 1 + 1 + 1, 3, none⟩ = some (.nilIface) := by rw [hw5]; simp [go_sem]
  have g13 : w5.cell? ⟨w.heap.size + 1 + 1 + 1 + 1 + 1 + 1, 4, none⟩ = some (.bool a7) := by rw [hw5]; simp [go_sem]
  have g14 : w5.cell? ⟨w.heap.size + 1 + 1 + 1 + 1 + 1 + 1, 5, none⟩ = some (.bool a8) := by rw [hw5]; simp [go_sem]
  have g15 : w5.cell? ⟨w.heap.size + 1 + 1 + 1, 3, none⟩ = some (.int .i64 3) := by rw [hw5]; simp [go_sem]
  have g16 : w5.cell? ⟨w.heap.size + 1 + 1 + 1, 0, none⟩ = some (.pointer none) := by rw [hw5]; simp [go_sem]
  have g17 : w5.cell? ⟨w.heap.size + 1 + 1 + 1, 1, none⟩ = some (.nilIface) := by rw [hw5]; simp [go_sem]
  have g18 : w5.cell? ⟨w.heap.size + 1 + 1 + 1, 2, none⟩ = some (.bool false) := by rw [hw5]; simp [go_sem]
  have g19 : w5.cell? ⟨w.heap.size + 1, 0, none⟩ = some (.int .i64 1) := by rw [hw5]; simp [go_sem]
  have g20 : w5.cell? ⟨w.heap.size + 1, 1, none⟩ = some (.iface 51 (.pointer (some ⟨w.heap.size + 1 + 1 + 1 + 1 + 1, 0, none⟩))) := by rw [hw5]; simp [go_sem]
  have g21 : w5.cell? ⟨w.heap.size + 1 + 1 + 1 + 1 + 1 + 1 + 1, 0, none⟩ = some (.pointer (some ⟨w.heap.size + 1 + 1, 0, none⟩)) := by rw [hw5]; simp [go_sem]
  have g22 : w5.cell? ⟨w.heap.size + 1 + 1 + 1 + 1 + 1 + 1 + 1, 1, none⟩ = some (.iface 22 (.pointer (some ⟨w.heap.size, 0, none⟩))) := by rw [hw5]; simp [go_sem]
  have g23 : w5.cell? ⟨w.heap.size + 1 + 1 + 1 + 1 + 1 + 1 + 1, 2, none⟩ = some (.bool a7) := by rw [hw5]; simp [go_sem]
  have g24 : w5.cell? ⟨w.heap.size + 1 + 1 + 1 + 1 + 1 + 1 + 1, 3, none⟩ = some (.int .i64 a6) := by rw [hw5]; simp [go_sem]
  have hx : (binOp .eql 43 (.pointer (some ⟨w.heap.size + 1 + 1 + 1 + 1 + 1 + 1 + 1, 0, none⟩)) (.pointer (some ⟨w.heap.size + 1 + 1 + 1, 0, none⟩))).run Yba.prog w5 = .ok (.bool false) w5 := by
    refine x43 w5 (ca := #[.pointer (some ⟨w.heap.size + 1 + 1, 0, none⟩), .iface 22 (.pointer (some ⟨w.heap.size, 0, none⟩)), .bool a7, .int .i64 a6]) (ta := 47) (cb := #[.pointer none, .nilIface, .bool false, .int .i64 3]) (tb := 47) ?_ ?_ ?_
    · intro e; injection e with e _; omega
    · exact (two_blocks' w _ _ _ _ _ _ _ _ _ _ _ _ q w5 hw5).1
    · exact (two_blocks' w _ _ _ _ _ _ _ _ _ _ _ _ q w5 hw5).2
  have L5 : Below w.heap.size w w5 := by
    rw [hw5]
    exact dN ((((((seven w _ _ _ _ _ _ _ 0).setCell (by simp; try omega) _).setCell (by simp; try omega) _).setCell (by simp; try omega) _).alloc (by simp; try omega) _).setCell (by simp; try omega) _)
  clear hw5
  go_wp2
  go_ret
  exact ⟨rfl, L5⟩
set_option maxHeartbeats 2000000 in
set_option maxRecDepth 100000 in
theorem walk_yes_ff (a0 a1 : Int) (a3 : Bool) (a4 a5 a6 : Int) (a7 a8 : Bool) (w : World) (heq : (wrap64 (a0 + 1) == a1) = true) :
    Calls Yba.prog 3 #[.int .i64 a0, .int .i64 a1, .bool false, .bool a3, .int .i64 a4, .int .i64 a5, .int .i64 a6, .bool a7, .bool a8, .bool false] w fun e w' => e = .returned (.bool true) ∧ Below w.heap.size w w' := by
  have e1 := e30; have e2 := q30; have e3 := q43; have e4 := e34; have e5 := e27; have e6 := q45; have e7 := n32; have e8 := n55; have e9 := n45; have e10 := n27
  go_enter Yba.func3, Yba.ntmps3
  go_wp2_with fail
  refine (sub5_yes (w.heap.size + 1 + 1 + 1) (w.heap.size + 1 + 1) (w.heap.size + 1) (w.heap.size + 1 + 1 + 1 + 1 + 1) (none) (some ⟨w.heap.size, 0, none⟩) (some ⟨w.heap.size + 1 + 1 + 1 + 1, 0, none⟩) a7 a6 a0 (a1) _ heq (by omega) (by omega) (by omega) (by omega) (by omega) (by simp) (by simp [go_sem]) (by simp [go_sem]) (by simp [go_sem]) (by simp [go_sem]) (by simp [go_sem]) (by simp [go_sem]) (by simp [go_sem]) (by simp [go_sem]) (by simp [go_sem]) (by simp [go_sem]) (by simp [go_sem]) (by simp [go_sem]) (by simp [go_sem]) (by simp [go_sem]) (by simp [go_sem])).mono ?_
  rintro e w5 ⟨q, rfl, hw5⟩
  have g0 : w5.cell? ⟨w.heap.size + 1 + 1 + 1, 0, none⟩ = some (.pointer (some ⟨w.heap.size + 1 + 1, 0, none⟩)) := by rw [hw5]; simp [go_sem]
  have g1 : w5.cell? ⟨w.heap.size + 1 + 1 + 1, 1, none⟩ = some (.bool a3) := by rw [hw5]; simp [go_sem]
  have g2 : w5.cell? ⟨w.heap.size + 1 + 1 + 1, 2, none⟩ = some (.int .i64 a4) := by rw [hw5]; simp [go_sem]
  have g3 : w5.cell? ⟨w.heap.size + 1 + 1 + 1, 3, none⟩ = some (.int .i64 (wrap64 (a0 + 1))) := by rw [hw5]; simp [go_sem]
  have g4 : w5.cell? ⟨w.heap.size + 1 + 1 + 1, 4, none⟩ = some (.pointer (some ⟨w.heap.size + 1 + 1 + 1 + 1 + 1 + 1, 0, none⟩)) := by rw [hw5]; simp [go_sem]
  have g5 : w5.cell? ⟨w.heap.size + 1 + 1, 4, none⟩ = some (.int .i64 (a1)) := by rw [hw5]; simp [go_sem]
  have g6 : w5.cell? ⟨w.heap.size + 1 + 1, 3, none⟩ = some (.iface 25 (.pointer (some ⟨w.heap.size + 1, 0, none⟩))) := by rw [hw5]; simp [go_sem]
  have g7 : w5.cell? ⟨w.heap.size + 1 + 1, 2, none⟩ = some (.nilIface) := by rw [hw5]; simp [go_sem]
  have g8 : w5.cell? ⟨w.heap.size + 1 + 1, 6, none⟩ = some (.pointer none) := by rw [hw5]; simp [go_sem]
  have g9 : w5.cell? ⟨w.heap.size + 1 + 1 + 1 + 1 + 1, 0, none⟩ = some (.int .i64 a5) := by rw [hw5]; simp [go_sem]
  have g10 : w5.cell? ⟨w.heap.size + 1 + 1 + 1 + 1 + 1, 1, none⟩ = some (.int .i64 a6) := by rw [hw5]; simp [go_sem]
  have g11 : w5.cell? ⟨w.heap.size + 1 + 1 + 1 + 1 + 1, 2, none⟩ = some (.iface 51 (.pointer (some ⟨w.heap.size + 1 + 1 + 1 + 1, 0, none⟩))) := by rw [hw5]; simp [go_sem]
  have g12 : w5.cell? ⟨w.heap.size + 1 + 1 + 1 + 1 + 1, 3, none⟩ = some (.nilIface) := by rw [hw5]; simp [go_sem]
  have g13 : w5.cell? ⟨w.heap.size + 1 + 1 + 1 + 1 + 1, 4, none⟩ = some (.bool a7) := by rw [hw5]; simp [go_sem]
  have g14 : w5.cell? ⟨w.heap.size + 1 + 1 + 1 + 1 + 1, 5, none⟩ = some (.bool a8) := by rw [hw5]; simp [go_sem]
  have g15 : w5.cell? ⟨w.heap.size + 1, 0, none⟩ = some (.int .i64 1) := by rw [hw5]; simp [go_sem]
  have g16 : w5.cell? ⟨w.heap.size + 1, 1, none⟩ = some (.iface 51 (.pointer (some ⟨w.heap.size + 1 + 1 + 1 + 1, 0, none⟩))) := by rw [hw5]; simp [go_sem]
  have g17 : w5.cell? ⟨w.heap.size + 1 + 1 + 1 + 1 + 1 + 1, 0, none⟩ = some (.pointer (some ⟨w.heap.size + 1 + 1, 0, none⟩)) := by rw [hw5]; simp [go_sem]
  have g18 : w5.cell? ⟨w.heap.size + 1 + 1 + 1 + 1 + 1 + 1, 1, none⟩ = some (.iface 22 (.pointer (some ⟨w.heap.size, 0, none⟩))) := by rw [hw5]; simp [go_sem]
  have g19 : w5.cell? ⟨w.heap.size + 1 + 1 + 1 + 1 + 1 + 1, 2, none⟩ = some (.bool a7) := by rw [hw5]; simp [go_sem]
  have g20 : w5.cell? ⟨w.heap.size + 1 + 1 + 1 + 1 + 1 + 1, 3, none⟩ = some (.int .i64 a6) := by rw [hw5]; simp [go_sem]
  have L5 : Below w.heap.size w w5 := by
    rw [hw5]
    exact dN ((((((six w _ _ _ _ _ _ 0).setCell (by simp; try omega) _).setCell (by simp; try omega) _).setCell (by simp; try omega) _).alloc (by simp; try omega) _).setCell (by simp; try omega) _)
  clear hw5
  go_wp2
  go_ret
  exact ⟨rfl, L5⟩
end Go.Proofs.Ybulkeenu
