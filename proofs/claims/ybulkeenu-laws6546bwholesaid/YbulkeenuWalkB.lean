import Derived.Test.YbulkeenuRows
import Derived.WalkKit
import Derived.WalkSpells
import Derived.WalkLawsBesides
import Derived.Below
import Derived.LaidEqlPtr
import Derived.BigQuiet
import Derived.Deep.QuietTactic
namespace Go.Proofs.Ybulkeenu
open Go.RowKit
set_option linter.unusedVariables false
namespace B
theorem n63 (w : World) (a : Option Addr) (n c n' c' : Nat) : (binOp .neq 63 (.slice a n c) (.slice none n' c')).run Yba.prog w = .ok (.bool (!a.isNone)) w := run_neq_slice_nil_any w _ _ a n c n' c' Yba.underlying63
theorem n64 (w : World) (a : Option Addr) (n c n' c' : Nat) : (binOp .neq 64 (.slice a n c) (.slice none n' c')).run Yba.prog w = .ok (.bool (!a.isNone)) w := run_neq_slice_nil_any w _ _ a n c n' c' Yba.underlying64
theorem q63 (w : World) (a : Option Addr) (n c n' c' : Nat) : (binOp .eql 63 (.slice a n c) (.slice none n' c')).run Yba.prog w = .ok (.bool a.isNone) w := Lib.run_eql_slice_nil w _ _ a n c n' c' Yba.underlying63
theorem q64 (w : World) (a : Option Addr) (n c n' c' : Nat) : (binOp .eql 64 (.slice a n c) (.slice none n' c')).run Yba.prog w = .ok (.bool a.isNone) w := Lib.run_eql_slice_nil w _ _ a n c n' c' Yba.underlying64
theorem q60 (a : Addr) (w : World) : (binOp .eql 60 (.pointer (some a)) (.pointer (some a))).run Yba.prog w = .ok (.bool true) w := by
  have h : ∀ d : Nat, (Op.equalIn (d + 1) 60 (.pointer (some a)) (.pointer (some a))).run Yba.prog w = .ok true w := fun d => by
    simp [Op.equalIn, run_underlying Yba.underlying60, Yba.sizeOf70, run_sameAddr_same]
  simp only [binOp]
  simp [Op.equal, Op.maxDepth, h 9999]

set_option maxHeartbeats 1000000 in
set_option maxRecDepth 100000 in
theorem older8 (t h : Nat) (x y : Int) (w : World) (c1 : w.cell? ⟨t, 2, none⟩ = some (.int .i64 x)) (c2 : w.cell? ⟨h, 2, none⟩ = some (.int .i64 y)) :
    Calls Yba.prog 8 #[.pointer (some ⟨t, 0, none⟩), .pointer (some ⟨h, 0, none⟩)] w fun e w' => e = .returned (.bool (decide (x < y))) ∧ ∃ q, w' = w.drewN q := by
  go_enter Yba.func8, Yba.ntmps8
  go_wp2
  go_quiet (fail)
  go_wp2
  go_ret
  exact ⟨rfl, _, rfl⟩

set_option maxHeartbeats 1000000 in
set_option maxRecDepth 100000 in
theorem ww6 (t h : Nat) (x y : Int) (w : World) (c1 : w.cell? ⟨t, 2, none⟩ = some (.int .i64 x)) (c2 : w.cell? ⟨h, 2, none⟩ = some (.int .i64 y)) :
    Calls Yba.prog 6 #[.pointer (some ⟨t, 0, none⟩), .pointer (some ⟨h, 0, none⟩)] w fun e w' => e = .returned (.int .i64 (if x < y then 2 else 0)) ∧ ∃ q, w' = w.drewN q := by
  by_cases hlt : x < y
  · rw [if_pos hlt]
    go_enter Yba.func6, Yba.ntmps6
    go_wp2_with (first | (go_at_call 8; refine (older8 t h x y _ c1 c2).mono ?_; rintro e w' ⟨rfl, q, rfl⟩))
    go_ret
    exact ⟨rfl, _, rfl⟩
  · rw [if_neg hlt]
    go_enter Yba.func6, Yba.ntmps6
    go_wp2_with (first | (go_at_call 8; refine (older8 t h x y _ c1 c2).mono ?_; rintro e w' ⟨rfl, q, rfl⟩))
    go_ret
    exact ⟨rfl, _, rfl⟩

set_option maxHeartbeats 1000000 in
set_option maxRecDepth 100000 in
theorem walk_same (a0 a1 : Int) (w : World) : Calls Yba.prog 4 #[.int .i64 a0, .int .i64 a1, .bool true] w fun e w' => e = .returned (.bool true) ∧ Below w.heap.size w w' := by
  have e1 := n63; have e2 := n64; have e3 := q63; have e4 := q64; have e5 := q60
  have hxx : ¬ a0 < a0 := by omega
  go_enter Yba.func4, Yba.ntmps4
  go_wp2_with fail
  refine (ww6 (w.heap.size) (w.heap.size) a0 a0 _ (by simp [go_sem]) (by simp [go_sem])).mono ?_
  rw [if_neg (by omega)]
  rintro e w' ⟨rfl, q, rfl⟩
  go_wp2
  go_ret
  exact ⟨rfl, ((((Below.refl _ w).alloc (Nat.le_refl _) _).alloc (by simp) _)).trans ⟨rfl, rfl, rfl, Nat.le_refl _, fun _ _ => rfl⟩⟩

set_option maxHeartbeats 1000000 in
set_option maxRecDepth 100000 in
theorem walk_other (a0 a1 : Int) (w : World) : Calls Yba.prog 4 #[.int .i64 a0, .int .i64 a1, .bool false] w fun e w' => e = .returned (.bool true) ∧ Below w.heap.size w w' := by
  have e1 := n63; have e2 := n64; have e3 := q63; have e4 := q64; have e5 := q60
  by_cases hlt : a0 < a1
  · go_enter Yba.func4, Yba.ntmps4
    go_wp2_with fail
    refine (ww6 (w.heap.size) (w.heap.size + 1) a0 a1 _ (by simp [go_sem]) (by simp [go_sem])).mono ?_
    rw [if_pos hlt]
    rintro e w' ⟨rfl, q, rfl⟩
    go_wp2
    go_quiet (fail)
    go_wp2
    go_ret
    exact ⟨rfl, ((((Below.refl _ w).alloc (Nat.le_refl _) _).alloc (by simp) _)).trans ⟨rfl, rfl, rfl, Nat.le_refl _, fun _ _ => rfl⟩⟩
  · go_enter Yba.func4, Yba.ntmps4
    go_wp2_with fail
    refine (ww6 (w.heap.size) (w.heap.size + 1) a0 a1 _ (by simp [go_sem]) (by simp [go_sem])).mono ?_
    rw [if_neg (by omega)]
    rintro e w' ⟨rfl, q, rfl⟩
    go_wp2
    go_quiet (fail)
    go_wp2
    go_ret
    exact ⟨rfl, ((((Below.refl _ w).alloc (Nat.le_refl _) _).alloc (by simp) _)).trans ⟨rfl, rfl, rfl, Nat.le_refl _, fun _ _ => rfl⟩⟩
end B
end Go.Proofs.Ybulkeenu
