import Derived.Test.YbulkeengBytes
import Derived.Lib.EndianBits
import Derived.RegionTactic
namespace Go.Proofs.Ybulkeeng
open Go.RowKit

set_option maxHeartbeats 4000000 in
set_option maxRecDepth 100000 in
theorem u32_13 (g o c : Nat) (z0 z1 z2 z3 : Int) (w : World) (c0 : w.cell? ⟨g, o, none⟩ = some (.int .u8 z0)) (c1 : w.cell? ⟨g, o + 1, none⟩ = some (.int .u8 z1)) (c2 : w.cell? ⟨g, o + 2, none⟩ = some (.int .u8 z2)) (c3 : w.cell? ⟨g, o + 3, none⟩ = some (.int .u8 z3))
    (a0 : 0 ≤ z0) (b0 : z0 ≤ 255) (a1 : 0 ≤ z1) (b1 : z1 ≤ 255) (a2 : 0 ≤ z2) (b2 : z2 ≤ 255) (a3 : 0 ≤ z3) (b3 : z3 ≤ 255) :
    Calls Yba.prog 13 #[.slice (some ⟨g, o, none⟩) 4 c] w fun e w' => e = .returned (.int .u32 (z3 + z2 * 256 + z1 * 65536 + z0 * 16777216)) ∧ ∃ q, w' = w.drewN q := by
  go_enter Yba.func13, Yba.ntmps13
  go_wp2
  go_quiet (fail)
  go_wp2
  go_ret
  have e1 : bits .or .u32 (z0 * 16777216) (z1 * 65536) = z0 * 16777216 + z1 * 65536 := bits_join .u32 32 (by decide) wraps_u32 24 _ _ (by omega) (by omega) (by omega) (by omega) (by omega) (by omega)
  have e2 : bits .or .u32 (z0 * 16777216 + z1 * 65536) (z2 * 256) = z0 * 16777216 + z1 * 65536 + z2 * 256 := bits_join .u32 32 (by decide) wraps_u32 16 _ _ (by omega) (by omega) (by omega) (by omega) (by omega) (by omega)
  have e3 : bits .or .u32 (z0 * 16777216 + z1 * 65536 + z2 * 256) z3 = z0 * 16777216 + z1 * 65536 + z2 * 256 + z3 := bits_join .u32 32 (by decide) wraps_u32 8 _ _ (by omega) (by omega) (by omega) (by omega) (by omega) (by omega)
  refine ⟨?_, nq, rfl⟩
  show Ending.returned (.int .u32 _) = _
  rw [e1, e2, e3]
  congr 2
  omega

set_option maxHeartbeats 4000000 in
set_option maxRecDepth 100000 in
theorem u32_14 (g o n c : Nat) (z0 z1 z2 z3 : Int) (w : World) (hn : 4 ≤ n) (c0 : w.cell? ⟨g, o, none⟩ = some (.int .u8 z0)) (c1 : w.cell? ⟨g, o + 1, none⟩ = some (.int .u8 z1)) (c2 : w.cell? ⟨g, o + 2, none⟩ = some (.int .u8 z2)) (c3 : w.cell? ⟨g, o + 3, none⟩ = some (.int .u8 z3))
    (a0 : 0 ≤ z0) (b0 : z0 ≤ 255) (a1 : 0 ≤ z1) (b1 : z1 ≤ 255) (a2 : 0 ≤ z2) (b2 : z2 ≤ 255) (a3 : 0 ≤ z3) (b3 : z3 ≤ 255) :
    Calls Yba.prog 14 #[.agg #[], .slice (some ⟨g, o, none⟩) n c] w fun e w' => e = .returned (.int .u32 (z3 + z2 * 256 + z1 * 65536 + z0 * 16777216)) ∧ Below w.heap.size w w' := by
  have d0 := Lib.cell?_alloc_some (.cells #[] 51) c0
  have d1 := Lib.cell?_alloc_some (.cells #[] 51) c1
  have d2 := Lib.cell?_alloc_some (.cells #[] 51) c2
  have d3 := Lib.cell?_alloc_some (.cells #[] 51) c3
  go_enter Yba.func14, Yba.ntmps14
  go_wp2
  go_quiet (fail)
  go_wp2
  go_ret
  have e1 : bits .or .u32 z3 (z2 * 256) = z3 + z2 * 256 := u32_or8 _ _ (by omega) (by omega) (by omega) (by omega) (by omega)
  have e2 : bits .or .u32 (z3 + z2 * 256) (z1 * 65536) = z3 + z2 * 256 + z1 * 65536 := u32_or16 _ _ (by omega) (by omega) (by omega) (by omega) (by omega)
  have e3 : bits .or .u32 (z3 + z2 * 256 + z1 * 65536) (z0 * 16777216) = z3 + z2 * 256 + z1 * 65536 + z0 * 16777216 := u32_or24 _ _ (by omega) (by omega) (by omega) (by omega) (by omega)
  refine ⟨?_, ?_⟩
  · show Ending.returned (.int .u32 _) = _
    rw [e1, e2, e3]
  · exact ((Below.refl _ w).alloc (Nat.le_refl _) _).trans ⟨rfl, rfl, rfl, Nat.le_refl _, fun _ _ => rfl⟩

set_option maxHeartbeats 4000000 in
set_option maxRecDepth 100000 in
theorem act_15 (g n c : Nat) (z0 z1 z2 z3 : Int) (w : World) (hn : 16 ≤ n) (hc : n ≤ c) (hm : n ≤ 2000000) (c0 : w.cell? ⟨g, 8, none⟩ = some (.int .u8 z0)) (c1 : w.cell? ⟨g, 9, none⟩ = some (.int .u8 z1)) (c2 : w.cell? ⟨g, 10, none⟩ = some (.int .u8 z2)) (c3 : w.cell? ⟨g, 11, none⟩ = some (.int .u8 z3))
    (a0 : 0 ≤ z0) (b0 : z0 ≤ 255) (a1 : 0 ≤ z1) (b1 : z1 ≤ 255) (a2 : 0 ≤ z2) (b2 : z2 ≤ 255) (a3 : 0 ≤ z3) (b3 : z3 ≤ 255) :
    Calls Yba.prog 15 #[.slice (some ⟨g, 0, none⟩) n c] w fun e w' => e = .returned (.int .u32 (z3 + z2 * 256 + z1 * 65536 + z0 * 16777216)) ∧ Below w.heap.size w w' := by
  have K : Aside (Calls Yba.prog 14 #[.agg #[], .slice (some ⟨g, 8, none⟩) (n - 8) (c - 8)] w.drew fun e w' => e = .returned (.int .u32 (z3 + z2 * 256 + z1 * 65536 + z0 * 16777216)) ∧ Below w.heap.size w w') := by
    refine (u32_14 g 8 (n - 8) (c - 8) z0 z1 z2 z3 w.drew (by omega) c0 c1 c2 c3 a0 b0 a1 b1 a2 b2 a3 b3).mono ?_
    rintro e w' ⟨rfl, hb⟩
    exact ⟨rfl, hb.os, hb.tape, hb.output, hb.size, hb.block⟩
  go_enter Yba.func15, Yba.ntmps15
  go_wp2
  go_region_with (go_at_call 14; refine K.out.mono ?_; rintro e w' ⟨rfl, hb⟩)
  all_goals
    go_wp2
    go_ret
    exact ⟨rfl, hb⟩
end Go.Proofs.Ybulkeeng
