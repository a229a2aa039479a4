import Derived.Test.YbulkeengAns
import Derived.Laws.BytesArg
namespace Go.Proofs.Ybulkeeng
open Go.RowKit

/-- The row at block g spells the numbers r 0, r 1, .., each a byte. -/
def Spells (w : World) (g n : Nat) (r : Nat → Int) : Prop := ∀ i, i < n → w.cell? ⟨g, i, none⟩ = some (.int .u8 (r i)) ∧ 0 ≤ r i ∧ r i ≤ 255
def u4 (r : Nat → Int) (o : Nat) : Int := r (o + 3) + r (o + 2) * 256 + r (o + 1) * 65536 + r o * 16777216

set_option maxHeartbeats 4000000 in
set_option maxRecDepth 100000 in
theorem ans_short (g1 n c1 g2 m c2 : Nat) (w : World) (hn : n < 8) (hm : 16 ≤ m) (hc : m ≤ c2) (hb : m ≤ 2000000) :
    Calls Yba.prog 11 #[.slice (some ⟨g1, 0, none⟩) n c1, .slice (some ⟨g2, 0, none⟩) m c2] w fun e w' => e = .returned (.bool false) ∧ Below w.heap.size w w' := by
  have hd : decide ((n : Int) < 8) = true := by simp; omega
  go_enter Yba.func11, Yba.ntmps11
  go_wp2
  all_goals go_quiet (fail)
  all_goals go_wp2
  all_goals go_ret
  all_goals exact ⟨rfl, (Below.refl _ _).trans ⟨rfl, rfl, rfl, Nat.le_refl _, fun _ _ => rfl⟩⟩

set_option maxHeartbeats 4000000 in
set_option maxRecDepth 100000 in
theorem ans_tid (g1 n c1 g2 m c2 : Nat) (w : World) (s1 s2 : ByteArray) (hn : 8 ≤ n) (hn1 : n ≤ c1) (hn2 : n ≤ 2000000) (hm : 16 ≤ m) (hc : m ≤ c2) (hb : m ≤ 2000000)
    (k1 : ∀ k c, Sem.run Yba.prog (convert 22 9 (.slice (some ⟨g1, 4, none⟩) 4 c)) (w.drewN k) = .ok (.string s1) (w.drewN k))
    (k2 : ∀ k c, Sem.run Yba.prog (convert 22 9 (.slice (some ⟨g2, 12, none⟩) 4 c)) (w.drewN k) = .ok (.string s2) (w.drewN k)) (hne : (s1.toList == s2.toList) = false) :
    Calls Yba.prog 11 #[.slice (some ⟨g1, 0, none⟩) n c1, .slice (some ⟨g2, 0, none⟩) m c2] w fun e w' => e = .returned (.bool false) ∧ Below w.heap.size w w' := by
  have hd : decide ((n : Int) < 8) = false := by simp; omega
  go_enter Yba.func11, Yba.ntmps11
  go_wp2
  all_goals go_quiet (fail)
  all_goals go_wp2
  all_goals go_ret
  all_goals exact ⟨rfl, (Below.refl _ _).trans ⟨rfl, rfl, rfl, Nat.le_refl _, fun _ _ => rfl⟩⟩

/-- What both functions answer once the transaction ids agree. -/
def endB (n : Nat) (X Y : Int) : Bool := (X == 3) || (!(X != Y) && (if (X == 0) = true then decide (16 ≤ (n : Int)) else decide (20 ≤ (n : Int))))

set_option maxHeartbeats 4000000 in
set_option maxRecDepth 100000 in
theorem ans_rest (g1 n c1 g2 m c2 : Nat) (w : World) (s1 s2 : ByteArray) (X Y : Int) (hn : 8 ≤ n) (hn1 : n ≤ c1) (hn2 : n ≤ 2000000) (hm : 16 ≤ m) (hc : m ≤ c2) (hb : m ≤ 2000000)
    (k1 : ∀ k c, Sem.run Yba.prog (convert 22 9 (.slice (some ⟨g1, 4, none⟩) 4 c)) (w.drewN k) = .ok (.string s1) (w.drewN k))
    (k2 : ∀ k c, Sem.run Yba.prog (convert 22 9 (.slice (some ⟨g2, 12, none⟩) 4 c)) (w.drewN k) = .ok (.string s2) (w.drewN k)) (hne : (s1.toList == s2.toList) = true)
    (K14 : Aside (∀ k, Calls Yba.prog 14 #[.agg #[], .slice (some ⟨g1, 0, none⟩) n c1] (w.drewN k) fun e w' => e = .returned (.int .u32 X) ∧ Below w.heap.size w w'))
    (K15 : Aside (∀ wx, Below w.heap.size w wx → Calls Yba.prog 15 #[.slice (some ⟨g2, 0, none⟩) m c2] wx fun e w' => e = .returned (.int .u32 Y) ∧ Below w.heap.size w w')) :
    Calls Yba.prog 11 #[.slice (some ⟨g1, 0, none⟩) n c1, .slice (some ⟨g2, 0, none⟩) m c2] w fun e w' => e = .returned (.bool (endB n X Y)) ∧ Below w.heap.size w w' := by
  have hd : decide ((n : Int) < 8) = false := by simp; omega
  unfold endB
  cases h3 : X == 3 <;> cases hXY : X != Y <;> cases h0 : X == 0
  all_goals
    go_enter Yba.func11, Yba.ntmps11
    go_wp2
    go_quiet (fail)
    clear k1 k2
    go_wp2_with (first | (go_at_call 14; refine (K14.out _).mono ?_; rintro e w1 ⟨rfl, hb1⟩) | (go_at_call 15; refine (K15.out _ hb1).mono ?_; rintro e w2 ⟨rfl, hb2⟩))
  all_goals go_ret
  all_goals first | exact ⟨rfl, hb2⟩ | exact ⟨rfl, hb1⟩
end Go.Proofs.Ybulkeeng
