import Derived.Test.YbulkeeoiRows
import Derived.WalkKit
import Derived.WalkSpells
import Derived.WalkLawsBesides
import Derived.Below
import Derived.Lib.SliceRun
import Derived.Deep.LoopGhost
import Derived.BigQuiet
import Derived.Deep.QuietTactic
import Derived.Deep.RegionWith
import Derived.Maps.Own
import Derived.Maps.OwnOps
import Derived.Maps.OwnSet
import Derived.Laws.MakeOwn
namespace Go.Proofs.Ybulkeeoi
open Go.RowKit
set_option linter.unusedVariables false

def es : ByteArray := { data := #[] }
/-- The cells of a binding as the law makes it. -/
abbrev bc (u c p : ByteArray) (q d : Int) : Array Value :=
  #[.string { data := #[] }, .string u, .slice none 0 0, .string { data := #[] }, .string { data := #[] }, .int .u32 0, .int .u64 0, .int .i64 0, .pointer none, .string c, .int .u32 q, .string p, .slice none 0 0, .int .u64 d, .int .i64 0]
/-- The cells of the law's own record. -/
abbrev rc (u c p : ByteArray) (q d : Int) : Array Value := #[.string u, .string c, .string p, .int .u32 q, .int .u64 d]

set_option maxHeartbeats 1000000 in
set_option maxRecDepth 100000 in
theorem make4 (u c p : ByteArray) (q d : Int) (w : World) :
    Calls Yba.prog 4 #[.agg (rc u c p q d)] w fun e w' => e = .returned (.agg (bc u c p q d)) ∧ w' = ((w.alloc (.cells (rc u c p q d) 44)).alloc (.cells (bc u c p q d) 40)) := by
  go_enter Yba.func4, Yba.ntmps4
  go_wp2
  exact bodyPost_ret (v := .agg (bc u c p q d)) (by simp [results, Yba.results4, go_sem]) rfl ⟨rfl, rfl⟩

set_option maxHeartbeats 1000000 in
set_option maxRecDepth 100000 in
theorem zero7 (w : World) :
    Calls Yba.prog 7 #[.agg #[.int .u64 0, .int .i64 0, .pointer none]] w fun e w' => e = .returned (.bool true) ∧ Below w.heap.size w w' := by
  go_enter Yba.func7, Yba.ntmps7
  go_wp2
  go_ret
  exact ⟨rfl, (Below.refl _ _).alloc (Nat.le_refl _) _⟩

set_option maxHeartbeats 1000000 in
set_option maxRecDepth 100000 in
theorem same6 (u c p : ByteArray) (q d : Int) (w : World) :
    Calls Yba.prog 6 #[.agg (bc u c p q d), .agg (rc u c p q d)] w fun e w' => e = .returned (.bool true) ∧ Below w.heap.size w w' := by
  go_enter Yba.func6, Yba.ntmps6
  go_wp2_with (first | (go_at_call 7; refine (zero7 _).mono ?_; rintro e w1 ⟨rfl, hb⟩))
  go_ret
  exact ⟨rfl, (((Below.refl _ w).alloc (Nat.le_refl _) _).alloc (by simp) _).trans (hb.mono (by simp; omega))⟩
end Go.Proofs.Ybulkeeoi
