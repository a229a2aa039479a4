import Derived.Test.YbulkeengAns2
namespace Go.Proofs.Ybulkeeng
open Go.RowKit
set_option linter.unusedVariables false

theorem drewN_two (w : World) (a b : Nat) : (w.drewN a).drewN b = w.drewN (a + b) := by simp [World.drewN, Nat.add_assoc]

set_option maxHeartbeats 4000000 in
set_option maxRecDepth 100000 in
theorem model_short (g1 n c1 g2 m c2 : Nat) (w : World) (hn : n < 8) :
    Calls Yba.prog 9 #[.slice (some ⟨g1, 0, none⟩) n c1, .slice (some ⟨g2, 0, none⟩) m c2] w fun e w' => e = .returned (.bool false) ∧ ∃ q, w' = w.drewN q := by
  go_enter Yba.func9, Yba.ntmps9
  go_wp2
  go_ret
  exact ⟨rfl, 0, rfl⟩

set_option maxHeartbeats 4000000 in
set_option maxRecDepth 100000 in
theorem model_tid (g1 n c1 g2 m c2 : Nat) (w : World) (r q : Nat → Int) (hn : 8 ≤ n) (hn1 : n ≤ c1) (hn2 : n ≤ 2000000) (hm : 16 ≤ m) (hc : m ≤ c2) (hb : m ≤ 2000000)
    (hr : Aside (Spells w g1 n r)) (hq : Aside (Spells w g2 m q)) (hmis : Aside (∃ j, j < 4 ∧ r (4 + j) ≠ q (12 + j))) :
    Calls Yba.prog 9 #[.slice (some ⟨g1, 0, none⟩) n c1, .slice (some ⟨g2, 0, none⟩) m c2] w fun e w' => e = .returned (.bool false) ∧ ∃ q, w' = w.drewN q := by
  go_enter Yba.func9, Yba.ntmps9
  go_wp2
  go_loopg [5] 4 (fun g s5 wr => ∃ k p : Nat, k ≤ 4 ∧ 4 - k ≤ g ∧ s5 = .int .i64 k ∧ wr = w.drewN p ∧ Aside (∀ j, j < k → r (4 + j) = q (12 + j)))
  case atStart => exact ⟨0, 0, Nat.zero_le _, by omega, rfl, rfl, fun j hj => absurd hj (Nat.not_lt_zero _)⟩
  case round =>
    obtain ⟨k, p, hk, hg, rfl, rfl, A⟩ := hrel
    by_cases hlt : k < 4
    · have f1 := (hr.out (4 + k) (by omega)).1
      have f2 := (hq.out (12 + k) (by omega)).1
      generalize hx : r (4 + k) = x at f1
      generalize hy : q (12 + k) = y at f2
      have B : Aside (r (4 + k) = x ∧ q (12 + k) = y) := ⟨hx, hy⟩
      clear hx hy
      cases hxy : x != y with
      | false =>
        go_wp2_with fail
        go_quiet (fail)
        go_wp2
        go_roundg (4 - (k + 1))
        case measure => omega
        case rel =>
          refine ⟨k + 1, _, by omega, by omega, by go_num, rfl, (show Aside _ from fun j hj => ?_)⟩
          by_cases e : j = k
          · subst e
            rw [B.out.1, B.out.2]; simpa using hxy
          · exact A.out j (by omega)
      | true =>
        go_wp2_with fail
        go_quiet (fail)
        go_wp2
        go_ret
        exact ⟨rfl, _, drewN_two _ _ _⟩
    · exfalso
      obtain ⟨j, hj, hne⟩ := hmis.out
      exact hne (A.out j (by omega))

set_option maxHeartbeats 4000000 in
set_option maxRecDepth 100000 in
theorem model_rest (g1 n c1 g2 m c2 : Nat) (w : World) (r q : Nat → Int) (X Y : Int) (hn : 8 ≤ n) (hn1 : n ≤ c1) (hn2 : n ≤ 2000000) (hm : 16 ≤ m) (hc : m ≤ c2) (hb : m ≤ 2000000)
    (hr : Aside (Spells w g1 n r)) (hq : Aside (Spells w g2 m q)) (hall : Aside (∀ j, j < 4 → r (4 + j) = q (12 + j)))
    (KX : Aside (∀ k, Calls Yba.prog 13 #[.slice (some ⟨g1, 0, none⟩) 4 c1] (w.drewN k) fun e w' => e = .returned (.int .u32 X) ∧ ∃ p, w' = w.drewN p))
    (KY : Aside (∀ k, Calls Yba.prog 13 #[.slice (some ⟨g2, 8, none⟩) 4 (c2 - 8)] (w.drewN k) fun e w' => e = .returned (.int .u32 Y) ∧ ∃ p, w' = w.drewN p)) :
    Calls Yba.prog 9 #[.slice (some ⟨g1, 0, none⟩) n c1, .slice (some ⟨g2, 0, none⟩) m c2] w fun e w' => e = .returned (.bool (endB n X Y)) ∧ ∃ q, w' = w.drewN q := by
  unfold endB
  cases h3 : X == 3 <;> cases hXY : X != Y <;> cases h0 : X == 0
  all_goals
    go_enter Yba.func9, Yba.ntmps9
    go_wp2
    go_loopg [5] 4 (fun g s5 wr => ∃ k p : Nat, k ≤ 4 ∧ 4 - k ≤ g ∧ s5 = .int .i64 k ∧ wr = w.drewN p)
    case atStart => exact ⟨0, 0, Nat.zero_le _, by omega, rfl, rfl⟩
    case round =>
      obtain ⟨k, p, hk, hg, rfl, rfl⟩ := hrel
      by_cases hlt : k < 4
      · have f1 := (hr.out (4 + k) (by omega)).1
        have f2 := (hq.out (12 + k) (by omega)).1
        rw [hall.out k hlt] at f1
        generalize q (12 + k) = y at f1 f2
        go_wp2_with fail
        go_quiet (fail)
        go_wp2
        go_roundg (4 - (k + 1))
        case measure => omega
        case rel => exact ⟨k + 1, _, by omega, by omega, by go_num, rfl⟩
      · go_wp2_with fail
        refine (KX.out _).mono ?_
        rintro e w1 ⟨rfl, p1, rfl⟩
        go_wp2_with fail
        refine (KY.out _).mono ?_
        rintro e w1 ⟨rfl, p2, rfl⟩
        go_wp2
        go_ret
        exact ⟨rfl, _, rfl⟩
end Go.Proofs.Ybulkeeng
