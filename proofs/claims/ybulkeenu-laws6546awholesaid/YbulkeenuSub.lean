import Derived.Test.YbulkeenuRows
import Derived.WalkKit
import Derived.WalkSpells
import Derived.WalkLawsBesides
import Derived.Below
import Derived.LaidEqlPtr
import Derived.BigQuiet
import Derived.Deep.QuietTactic
import Derived.Deep.RegionWith
import Derived.Deep.RegionHeld
namespace Go.Proofs.Ybulkeenu
open Go.RowKit
set_option linter.unusedVariables false

set_option maxHeartbeats 1000000 in
set_option maxRecDepth 100000 in
theorem sub25 (b : Nat) (ret : Option Addr) (tv : TypeId) (tp : Option Addr) (w : World) (c0 : w.cell? ⟨b, 0, none⟩ = some (.int .i64 0)) (c1 : w.cell? ⟨b, 1, none⟩ = some .nilIface) (c2 : w.cell? ⟨b, 2, none⟩ = some (.pointer ret))
    (f0 : w.frozen? ⟨b, 0, none⟩ = false) (f1 : w.frozen? ⟨b, 1, none⟩ = false) :
    Calls Yba.prog 25 #[.pointer (some ⟨b, 0, none⟩), .iface tv (.pointer tp)] w fun e w' => e = .returned (.iface 22 (.pointer ret)) ∧ w' = (w.setCell ⟨b, 0, none⟩ (.int .i64 1)).setCell ⟨b, 1, none⟩ (.iface tv (.pointer tp)) := by
  go_enter Yba.func25, Yba.ntmps25
  go_wp2
  go_ret
  exact ⟨rfl, rfl⟩

theorem method_sub (a : Addr) (w : World) : (method 311 25 (.pointer (some a)) "Substitute").run Yba.prog w = .ok (25, .pointer (some a)) w := by kernel_rfl

set_option maxHeartbeats 1000000 in
set_option maxRecDepth 100000 in
theorem sub7 (d s t : Nat) (ret tp : Option Addr) (ro : Bool) (bn : Int) (w : World) (hst : ¬ s = t) (hds : ¬ s = d)
    (d3 : w.cell? ⟨d, 3, none⟩ = some (.iface 25 (.pointer (some ⟨s, 0, none⟩))))
    (s0 : w.cell? ⟨s, 0, none⟩ = some (.int .i64 0)) (s1 : w.cell? ⟨s, 1, none⟩ = some .nilIface) (s2 : w.cell? ⟨s, 2, none⟩ = some (.pointer ret)) (f0 : w.frozen? ⟨s, 0, none⟩ = false) (f1 : w.frozen? ⟨s, 1, none⟩ = false)
    (t1 : w.cell? ⟨t, 1, none⟩ = some (.int .i64 bn)) (t2 : w.cell? ⟨t, 2, none⟩ = some (.iface 51 (.pointer tp))) (t4 : w.cell? ⟨t, 4, none⟩ = some (.bool ro)) :
    Calls Yba.prog 7 #[.pointer (some ⟨d, 0, none⟩), .pointer (some ⟨t, 0, none⟩)] w fun e w' => ∃ n, e = .returned (.pointer (some ⟨w.heap.size, 0, none⟩)) ∧
      w' = ((((w.setCell ⟨s, 0, none⟩ (.int .i64 1)).setCell ⟨s, 1, none⟩ (.iface 51 (.pointer tp))).alloc (.cells #[.pointer (some ⟨d, 0, none⟩), .iface 22 (.pointer ret), .bool ro, .int .i64 bn] 47)).drewN n) := by
  have M := method_sub
  have K : Hid (Calls Yba.prog 25 #[.pointer (some ⟨s, 0, none⟩), .iface 51 (.pointer tp)] w.drew fun e w' => e = .returned (.iface 22 (.pointer ret)) ∧ w' = (w.drew.setCell ⟨s, 0, none⟩ (.int .i64 1)).setCell ⟨s, 1, none⟩ (.iface 51 (.pointer tp))) := sub25 s ret 51 tp w.drew s0 s1 s2 f0 f1
  go_enter Yba.func7, Yba.ntmps7
  go_wp2
  go_region_held (fun w' => w'.cell? ⟨d, 3, none⟩ = some (.iface 25 (.pointer (some ⟨s, 0, none⟩))) ∧ w'.cell? ⟨t, 1, none⟩ = some (.int .i64 bn) ∧ w'.cell? ⟨t, 2, none⟩ = some (.iface 51 (.pointer tp)) ∧ w'.cell? ⟨t, 4, none⟩ = some (.bool ro)) (go_keep) (first | (go_at_call 25; refine K.out.mono ?_; rintro e w' ⟨rfl, rfl⟩))
  go_wp2
  go_ret
  exact ⟨1, rfl, rfl⟩

theorem drawn_out (W : World) (k q : Nat) (p p' : Addr) (v v' : Value) (o : Obj) : ((((W.drewN k).setCell p v).setCell p' v').alloc o).drewN q = (((W.setCell p v).setCell p' v').alloc o).drewN (k + q) := by
  show ((((W.setCell p v).setCell p' v').alloc o).drewN k).drewN q = _
  rw [World.drewN_drewN]

set_option maxHeartbeats 1000000 in
set_option maxRecDepth 100000 in
theorem sub5_no (a d : Nat) (tv : Value) (n m : Int) (w : World) (hne : (wrap64 (n + 1) == m) = false) (had : ¬ a = d)
    (a0 : w.cell? ⟨a, 0, none⟩ = some (.pointer (some ⟨d, 0, none⟩))) (a3 : w.cell? ⟨a, 3, none⟩ = some (.int .i64 n)) (f3 : w.frozen? ⟨a, 3, none⟩ = false) (d4 : w.cell? ⟨d, 4, none⟩ = some (.int .i64 m)) :
    Calls Yba.prog 5 #[.pointer (some ⟨a, 0, none⟩), tv] w fun e w' => ∃ q, e = .returned (.tuple #[]) ∧ w' = (w.setCell ⟨a, 3, none⟩ (.int .i64 (wrap64 (n + 1)))).drewN q := by
  go_enter Yba.func5, Yba.ntmps5
  go_wp2
  go_quiet (fail)
  go_wp2
  go_end0
  exact ⟨_, rfl, rfl⟩

set_option maxHeartbeats 1000000 in
set_option maxRecDepth 100000 in
theorem sub5_yes (a d s t : Nat) (old : Option Addr) (ret tp : Option Addr) (ro : Bool) (bn n m : Int) (w : World) (heq : (wrap64 (n + 1) == m) = true) (had : ¬ a = d) (has : ¬ a = s) (hat : ¬ a = t) (hst : ¬ s = t) (hds : ¬ s = d) (hal : a < w.heap.size)
    (a0 : w.cell? ⟨a, 0, none⟩ = some (.pointer (some ⟨d, 0, none⟩))) (a3 : w.cell? ⟨a, 3, none⟩ = some (.int .i64 n)) (f3 : w.frozen? ⟨a, 3, none⟩ = false) (a4 : w.cell? ⟨a, 4, none⟩ = some (.pointer old)) (f4 : w.frozen? ⟨a, 4, none⟩ = false) (d4 : w.cell? ⟨d, 4, none⟩ = some (.int .i64 m))
    (d3 : w.cell? ⟨d, 3, none⟩ = some (.iface 25 (.pointer (some ⟨s, 0, none⟩))))
    (s0 : w.cell? ⟨s, 0, none⟩ = some (.int .i64 0)) (s1 : w.cell? ⟨s, 1, none⟩ = some .nilIface) (s2 : w.cell? ⟨s, 2, none⟩ = some (.pointer ret)) (f0 : w.frozen? ⟨s, 0, none⟩ = false) (f1 : w.frozen? ⟨s, 1, none⟩ = false)
    (t1 : w.cell? ⟨t, 1, none⟩ = some (.int .i64 bn)) (t2 : w.cell? ⟨t, 2, none⟩ = some (.iface 51 (.pointer tp))) (t4 : w.cell? ⟨t, 4, none⟩ = some (.bool ro)) :
    Calls Yba.prog 5 #[.pointer (some ⟨a, 0, none⟩), .pointer (some ⟨t, 0, none⟩)] w fun e w' => ∃ q, e = .returned (.tuple #[]) ∧ w' = ((((((w.setCell ⟨a, 3, none⟩ (.int .i64 (wrap64 (n + 1)))).setCell ⟨s, 0, none⟩ (.int .i64 1)).setCell ⟨s, 1, none⟩ (.iface 51 (.pointer tp))).alloc (.cells #[.pointer (some ⟨d, 0, none⟩), .iface 22 (.pointer ret), .bool ro, .int .i64 bn] 47)).setCell ⟨a, 4, none⟩ (.pointer (some ⟨w.heap.size, 0, none⟩))).drewN q) := by
  have K : Hid (∀ k, Calls Yba.prog 7 #[.pointer (some ⟨d, 0, none⟩), .pointer (some ⟨t, 0, none⟩)] ((w.setCell ⟨a, 3, none⟩ (.int .i64 (wrap64 (n + 1)))).drewN k) fun e w' => ∃ q, e = .returned (.pointer (some ⟨w.heap.size, 0, none⟩)) ∧
      w' = (((((w.setCell ⟨a, 3, none⟩ (.int .i64 (wrap64 (n + 1)))).setCell ⟨s, 0, none⟩ (.int .i64 1)).setCell ⟨s, 1, none⟩ (.iface 51 (.pointer tp))).alloc (.cells #[.pointer (some ⟨d, 0, none⟩), .iface 22 (.pointer ret), .bool ro, .int .i64 bn] 47)).drewN q)) := by
    intro k
    have far : ∀ (x : Addr) (v : Value), ¬ a = x.block → w.cell? x = some v → ((w.setCell ⟨a, 3, none⟩ (.int .i64 (wrap64 (n + 1)))).drewN k).cell? x = some v := by
      intro x v hx h
      show (w.setCell ⟨a, 3, none⟩ (.int .i64 (wrap64 (n + 1)))).cell? x = some v
      rw [World.cell?_setCell_far w _ _ _ hx]; exact h
    have ff : ∀ (x : Addr), ¬ a = x.block → w.frozen? x = false → ((w.setCell ⟨a, 3, none⟩ (.int .i64 (wrap64 (n + 1)))).drewN k).frozen? x = false := by
      intro x hx h
      show (w.setCell ⟨a, 3, none⟩ (.int .i64 (wrap64 (n + 1)))).frozen? x = false
      simpa using h
    refine (sub7 d s t ret tp ro bn _ hst hds (far _ _ had d3) (far _ _ has s0) (far _ _ has s1) (far _ _ has s2) (ff _ has f0) (ff _ has f1) (far _ _ hat t1) (far _ _ hat t2) (far _ _ hat t4)).mono ?_
    rintro e w' ⟨q, rfl, rfl⟩
    refine ⟨k + q, ?_, ?_⟩
    · simp [World.setCell]
    · exact drawn_out _ _ _ _ _ _ _ _
  go_enter Yba.func5, Yba.ntmps5
  go_wp2
  go_quiet (fail)
  go_wp2_with (first | (go_at_call 7; refine (K.out _).mono ?_; rintro e w' ⟨q, rfl, rfl⟩))
  go_end0
  exact ⟨q, rfl, rfl⟩
end Go.Proofs.Ybulkeenu
