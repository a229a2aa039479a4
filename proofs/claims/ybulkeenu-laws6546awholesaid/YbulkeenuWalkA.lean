import Derived.Test.YbulkeenuSub
namespace Go.Proofs.Ybulkeenu
open Go.RowKit
set_option linter.unusedVariables false

theorem e30 (a : Addr) (w : World) : (binOp .neq 30 (.pointer (some a)) (.pointer (some a))).run Yba.prog w = .ok (.bool false) w := by
  have h : ∀ d : Nat, (Op.equalIn (d + 1) 30 (.pointer (some a)) (.pointer (some a))).run Yba.prog w = .ok true w := fun d => by
    simp [Op.equalIn, run_underlying Yba.underlying30, Yba.sizeOf42, run_sameAddr_same]
  simp only [binOp]
  simp [Op.equal, Op.maxDepth, h 9999]
theorem q30 (a : Addr) (w : World) : (binOp .eql 30 (.pointer (some a)) (.pointer (some a))).run Yba.prog w = .ok (.bool true) w := by
  have h : ∀ d : Nat, (Op.equalIn (d + 1) 30 (.pointer (some a)) (.pointer (some a))).run Yba.prog w = .ok true w := fun d => by
    simp [Op.equalIn, run_underlying Yba.underlying30, Yba.sizeOf42, run_sameAddr_same]
  simp only [binOp]
  simp [Op.equal, Op.maxDepth, h 9999]
theorem q43 (a : Addr) (w : World) : (binOp .eql 43 (.pointer (some a)) (.pointer (some a))).run Yba.prog w = .ok (.bool true) w := by
  have h : ∀ d : Nat, (Op.equalIn (d + 1) 43 (.pointer (some a)) (.pointer (some a))).run Yba.prog w = .ok true w := fun d => by
    simp [Op.equalIn, run_underlying Yba.underlying43, Yba.sizeOf47, run_sameAddr_same]
  simp only [binOp]
  simp [Op.equal, Op.maxDepth, h 9999]
theorem x43 {a b : Addr} (w : World) {ca cb : Array Value} {ta tb : TypeId} (hne : a ≠ b) (ha : w.heap[a.block]? = some (.cells ca ta (0, 0))) (hb : w.heap[b.block]? = some (.cells cb tb (0, 0))) : (binOp .eql 43 (.pointer (some a)) (.pointer (some b))).run Yba.prog w = .ok (.bool false) w := by
  have h : ∀ d : Nat, (Op.equalIn (d + 1) 43 (.pointer (some a)) (.pointer (some b))).run Yba.prog w = .ok false w := fun d => by
    simp [Op.equalIn, run_underlying Yba.underlying43, Yba.sizeOf47, run_sameAddr_other w hne ha hb]
  simp only [binOp]
  simp [Op.equal, Op.maxDepth, h 9999]
theorem e34 (a : Addr) (w : World) : (binOp .neq 34 (.iface 25 (.pointer (some a))) (.iface 25 (.pointer (some a)))).run Yba.prog w = .ok (.bool false) w := by
  have h : ∀ d : Nat, (Op.equalIn (d + 2) 34 (.iface 25 (.pointer (some a))) (.iface 25 (.pointer (some a)))).run Yba.prog w = .ok true w := fun d => by
    simp [Op.equalIn, run_underlying Yba.underlying34, run_underlying Yba.underlying25, Yba.typeInfo25, Yba.t25, Yba.sizeOf29, run_sameAddr_same]
  simp only [binOp]
  simp [Op.equal, Op.maxDepth, h 9998]
theorem e27 (a : Addr) (w : World) : (binOp .neq 27 (.iface 51 (.pointer (some a))) (.iface 51 (.pointer (some a)))).run Yba.prog w = .ok (.bool false) w := by
  have h : ∀ d : Nat, (Op.equalIn (d + 2) 27 (.iface 51 (.pointer (some a))) (.iface 51 (.pointer (some a)))).run Yba.prog w = .ok true w := fun d => by
    simp [Op.equalIn, run_underlying Yba.underlying27, run_underlying Yba.underlying51, Yba.typeInfo51, Yba.t51, Yba.sizeOf52, run_sameAddr_same]
  simp only [binOp]
  simp [Op.equal, Op.maxDepth, h 9998]
theorem q45 (a : Addr) (w : World) : (binOp .eql 45 (.iface 22 (.pointer (some a))) (.iface 22 (.pointer (some a)))).run Yba.prog w = .ok (.bool true) w := by
  have h : ∀ d : Nat, (Op.equalIn (d + 2) 45 (.iface 22 (.pointer (some a))) (.iface 22 (.pointer (some a)))).run Yba.prog w = .ok true w := fun d => by
    simp [Op.equalIn, run_underlying Yba.underlying45, run_underlying Yba.underlying22, Yba.typeInfo22, Yba.t22, Yba.sizeOf24, run_sameAddr_same]
  simp only [binOp]
  simp [Op.equal, Op.maxDepth, h 9998]
theorem n32 (w : World) : Sem.run Yba.prog (binOp .neq 32 .nilIface .nilIface) w = .ok (.bool false) w := by kernel_rfl
theorem n55 (w : World) : Sem.run Yba.prog (binOp .neq 55 .nilIface .nilIface) w = .ok (.bool false) w := by kernel_rfl
theorem n45 (w : World) : Sem.run Yba.prog (binOp .neq 45 .nilIface .nilIface) w = .ok (.bool false) w := by kernel_rfl
theorem n27 (w : World) : Sem.run Yba.prog (binOp .eql 27 .nilIface .nilIface) w = .ok (.bool true) w := by kernel_rfl

theorem dN {B q : Nat} {a w : World} (h : Below B a w) : Below B a (w.drewN q) := h.trans ⟨rfl, rfl, rfl, Nat.le_refl _, fun _ _ => rfl⟩
theorem top (w : World) (o : Obj) (k : Nat) (h : k = w.heap.size) : (w.alloc o).heap[k]? = some o := by subst h; show (w.heap.push _)[w.heap.size]? = _; simp
theorem six (w : World) (o1 o2 o3 o4 o5 o6 : Obj) (q : Nat) : Below w.heap.size w (((((((w.alloc o1).alloc o2).alloc o3).alloc o4).alloc o5).alloc o6).drewN q) :=
  dN (((((((Below.refl _ w).alloc (Nat.le_refl _) _).alloc (by simp) _).alloc (by simp; omega) _).alloc (by simp; omega) _).alloc (by simp; omega) _).alloc (by simp; omega) _)
theorem seven (w : World) (o1 o2 o3 o4 o5 o6 o7 : Obj) (q : Nat) : Below w.heap.size w ((((((((w.alloc o1).alloc o2).alloc o3).alloc o4).alloc o5).alloc o6).alloc o7).drewN q) :=
  dN ((((((((Below.refl _ w).alloc (Nat.le_refl _) _).alloc (by simp) _).alloc (by simp; omega) _).alloc (by simp; omega) _).alloc (by simp; omega) _).alloc (by simp; omega) _).alloc (by simp; omega) _)
theorem eight (w : World) (o1 o2 o3 o4 o5 o6 o7 o8 : Obj) (q : Nat) : Below w.heap.size w (((((((((w.alloc o1).alloc o2).alloc o3).alloc o4).alloc o5).alloc o6).alloc o7).alloc o8).drewN q) :=
  dN (((((((((Below.refl _ w).alloc (Nat.le_refl _) _).alloc (by simp) _).alloc (by simp; omega) _).alloc (by simp; omega) _).alloc (by simp; omega) _).alloc (by simp; omega) _).alloc (by simp; omega) _).alloc (by simp; omega) _)
set_option maxHeartbeats 2000000 in
set_option maxRecDepth 100000 in
theorem walk_no_f (a0 a1 : Int) (a3 : Bool) (a4 a5 a6 : Int) (a7 a8 : Bool) (w : World) (hne : (wrap64 (a0 + 1) == a1) = false) :
    Calls Yba.prog 3 #[.int .i64 a0, .int .i64 a1, .bool false, .bool a3, .int .i64 a4, .int .i64 a5, .int .i64 a6, .bool a7, .bool a8, .bool false] w fun e w' => e = .returned (.bool true) ∧ Below w.heap.size w w' := by
  have e1 := e30; have e2 := q30; have e3 := q43; have e4 := e34; have e5 := e27; have e6 := q45; have e7 := n32; have e8 := n55; have e9 := n45; have e10 := n27
  go_enter Yba.func3, Yba.ntmps3
  go_wp2_with fail
  refine (sub5_no (w.heap.size + 1 + 1 + 1) (w.heap.size + 1 + 1) _ a0 a1 _ hne (by omega) (by simp [go_sem]) (by simp [go_sem]) (by simp [go_sem]) (by simp [go_sem])).mono ?_
  rintro e w' ⟨q, rfl, rfl⟩
  go_wp2
  go_ret
  exact ⟨rfl, six _ _ _ _ _ _ _ _⟩
set_option maxHeartbeats 2000000 in
set_option maxRecDepth 100000 in
theorem walk_no_t (a0 a1 : Int) (a3 : Bool) (a4 a5 a6 : Int) (a7 a8 : Bool) (w : World) (hne : (wrap64 (a0 + 1) == a1) = false) :
    Calls Yba.prog 3 #[.int .i64 a0, .int .i64 a1, .bool false, .bool a3, .int .i64 a4, .int .i64 a5, .int .i64 a6, .bool a7, .bool a8, .bool true] w fun e w' => e = .returned (.bool true) ∧ Below w.heap.size w w' := by
  have e1 := e30; have e2 := q30; have e3 := q43; have e4 := e34; have e5 := e27; have e6 := q45; have e7 := n32; have e8 := n55; have e9 := n45; have e10 := n27
  go_enter Yba.func3, Yba.ntmps3
  go_wp2_with fail
  refine (sub5_no (w.heap.size + 1 + 1 + 1 + 1) (w.heap.size + 1 + 1) _ a0 a1 _ hne (by omega) (by simp [go_sem]) (by simp [go_sem]) (by simp [go_sem]) (by simp [go_sem])).mono ?_
  rintro e w' ⟨q, rfl, rfl⟩
  go_wp2
  go_ret
  exact ⟨rfl, seven _ _ _ _ _ _ _ _ _⟩
end Go.Proofs.Ybulkeenu
