import Derived.Test.YbulkeepkRows
import Derived.WalkKit
import Derived.WalkSpells
import Derived.WalkLawsBesides
import Derived.Below
import Derived.Lib.SliceRun
import Derived.Deep.LoopGhost
import Derived.BigQuiet
import Derived.Deep.QuietTactic
import Derived.Deep.RegionWith
import Derived.Deep.MidRow
import Derived.Laws.StructEq
import Derived.Laws.MakeOwn
import Derived.Deep.RegionHeld
namespace Go.Proofs.Ybulkeepk
open Go.RowKit
set_option linter.unusedVariables false

theorem hide {p : Prop} (h : p) : Hid p := h
theorem top (w : World) (o : Obj) (k : Nat) (h : k = w.heap.size) : (w.alloc o).heap[k]? = some o := by subst h; show (w.heap.push _)[w.heap.size]? = _; simp
theorem cell_lt {w : World} {a : Addr} {v : Value} (h : w.cell? a = some v) : a.block < w.heap.size := by
  rcases Nat.lt_or_ge a.block w.heap.size with h' | h'
  · exact h'
  · simp [World.cell?, Array.getElem?_eq_none h'] at h
theorem range_below {w w' : World} {b o : Nat} {cs : List Value} (h : w.rangeAt b o cs) (hb : Below w.heap.size w w') : w'.rangeAt b o cs := by
  intro j v hv
  have := h j v hv
  rw [hb.cell (cell_lt this)]
  exact this
theorem cell_below {w w' : World} {a : Addr} {v : Value} (h : w.cell? a = some v) (hb : Below w.heap.size w w') : w'.cell? a = some v := by
  rw [hb.cell (cell_lt h)]; exact h

/-- The cells of a write. -/
abbrev wc3 (x y z : Int) : Array Value := #[.int .i64 x, .int .i64 y, .int .i64 z]

theorem neq34 (x y z : Int) (w : World) : Sem.run Yba.prog (binOp .neq 34 (.agg (wc3 x y z)) (.agg (wc3 x y z))) w = .ok (.bool false) w := by
  have u3 := Yba.underlying3
  have a3 := Yba.isAgg3
  have z3 := Yba.sizeOf3
  have hS : Yba.prog.underlying 34 = some (.struct (Yba.prog.fieldsOf 34)) := by kernel_rfl
  have hp : Yba.prog.stoodInHeld 34 = false := by kernel_rfl
  rw [run_neq_struct, show (10000 : Nat) = 9999 + 1 from rfl, run_equalIn_agg w 9999 34 _ _ hS hp]
  simp only [Program.fieldsOf, Yba.underlying34]
  go_simp

theorem info34 : (Yba.prog.info? 34).map (fun i => (i.zero, i.size, i.bytes)) = some (some (.agg (wc3 0 0 0)), 3, 24) := by kernel_rfl

set_option maxHeartbeats 2000000 in
set_option maxRecDepth 100000 in
theorem clone6 (a : Addr) (n c : Nat) (news : List Value) (w : World) (hl : news.length = n * 3) (hn : n ≤ 1048576)
    (hc : Hid (∀ j u, news[j]? = some u → w.cell? (a.add j) = some u)) (h1 : ∀ u ∈ news, u.oneCell' = true) :
    Calls Yba.prog 6 #[.slice (some a) n c] w fun e w' => ∃ v', e = .returned v' ∧ w'.ownsRow w.heap.size 34 3 v' n news ∧ v' ≠ .slice none 0 0 ∧ Below w.heap.size w w' := by
  obtain ⟨i0, hi, hz0, hz1, hz2⟩ := info_parts info34
  have q29 : ∀ (w : World) (a : Option Addr) (n c n' c' : Nat), (binOp .eql 29 (.slice a n c) (.slice none n' c')).run Yba.prog w = .ok (.bool a.isNone) w := fun w a n c n' c' => Lib.run_eql_slice_nil w _ _ a n c n' c' Yba.underlying29
  go_enter Yba.func6, Yba.ntmps6
  go_wp2_with (at_builtin; refine wpList_append_own _ rfl _ _ 29 rfl w.heap.size 34 i0 (.agg (wc3 0 0 0)) 3 24 Yba.underlying29 hi hz0 hz1 hz2 rfl (by decide) _ _ _ rfl (World.ownsRow_made w #[] 0 (Nat.le_refl _) (Nat.zero_le _) rfl) a n c news rfl ?qc1 ?qc2 ?qc3 ?qc4 ?qc5 ?qc6 ?_)
  case qc1 => exact hl
  case qc2 =>
    intro j u hj
    exact Lib.cell?_alloc_some _ (hc.out j u hj)
  case qc3 => exact h1
  case qc4 => unfold maxLen; omega
  case qc5 => omega
  case qc6 => simp
  intro v' w1 hown hgrow hnil
  go_wp2
  go_ret
  refine ⟨v', rfl, by simpa using hown, ?_, ?_⟩
  · first | exact hnil | (intro e; exact absurd (hnil.1 e).1 (by simp))
  · exact ((Below.refl _ w).alloc (Nat.le_refl _) _).grown hgrow (by simp) (by intro k hk; simp [Value.ownBlock] at hk; omega)

set_option maxHeartbeats 1000000 in
theorem clone6_nil (n c : Nat) (w : World) :
    Calls Yba.prog 6 #[.slice none n c] w fun e w' => e = .returned (.slice none 0 0) ∧ w' = w := by
  have q29 : ∀ (w : World) (a : Option Addr) (n c n' c' : Nat), (binOp .eql 29 (.slice a n c) (.slice none n' c')).run Yba.prog w = .ok (.bool a.isNone) w := fun w a n c n' c' => Lib.run_eql_slice_nil w _ _ a n c n' c' Yba.underlying29
  go_enter Yba.func6, Yba.ntmps6
  go_wp2
  go_ret
  exact ⟨rfl, rfl⟩

set_option maxHeartbeats 2000000 in
set_option maxRecDepth 100000 in
/-- slices.Equal of two slices of n writes that hold the same: true. -/
theorem equal8 (a1 a2 : Option Addr) (n c1 c2 b1 b2 : Nat) (x y z : Nat → Int) (w : World) (hn : n ≤ 1048576)
    (i1 : Hid (∀ i, i < n → ∀ wx, Sem.run Yba.prog (Instr.indexAt 29 (.slice a1 n c1) (.int .i64 (i : Int))) wx = .ok (.pointer (some ⟨b1, i * 3, none⟩)) wx))
    (i2 : Hid (∀ i, i < n → ∀ wx, Sem.run Yba.prog (Instr.indexAt 29 (.slice a2 n c2) (.int .i64 (i : Int))) wx = .ok (.pointer (some ⟨b2, i * 3, none⟩)) wx))
    (r1 : Hid (∀ i, i < n → w.rangeAt b1 (i * 3) (wc3 (x i) (y i) (z i)).toList)) (r2 : Hid (∀ i, i < n → w.rangeAt b2 (i * 3) (wc3 (x i) (y i) (z i)).toList)) :
    Calls Yba.prog 8 #[.slice a1 n c1, .slice a2 n c2] w fun e w' => e = .returned (.bool true) ∧ ∃ q, w' = w.drewN q := by
  have hne := neq34
  go_enter Yba.func8, Yba.ntmps8
  go_wp2
  go_loopg [13] n (fun g s13 wr => ∃ k q : Nat, k ≤ n ∧ n - k ≤ g ∧ s13 = .int .i64 k ∧ wr = w.drewN q)
  case atStart => exact ⟨0, 0, Nat.zero_le _, by omega, rfl, rfl⟩
  case round =>
    obtain ⟨k, q, hk, hg, rfl, rfl⟩ := hrel
    by_cases hlt : k < n
    · have j1 := i1.out k hlt
      have j2 := i2.out k hlt
      have d0 : w.cell? ⟨b1, k * 3, none⟩ = some (.int .i64 (x k)) := r1.out k hlt 0 _ rfl
      have d1 : w.cell? ⟨b1, k * 3 + 1, none⟩ = some (.int .i64 (y k)) := r1.out k hlt 1 _ rfl
      have d2 : w.cell? ⟨b1, k * 3 + 2, none⟩ = some (.int .i64 (z k)) := r1.out k hlt 2 _ rfl
      have e0 : w.cell? ⟨b2, k * 3, none⟩ = some (.int .i64 (x k)) := r2.out k hlt 0 _ rfl
      have e1 : w.cell? ⟨b2, k * 3 + 1, none⟩ = some (.int .i64 (y k)) := r2.out k hlt 1 _ rfl
      have e2 : w.cell? ⟨b2, k * 3 + 2, none⟩ = some (.int .i64 (z k)) := r2.out k hlt 2 _ rfl
      go_wp2_with fail
      go_quiet (fail)
      go_wp2
      go_roundg (n - (k + 1))
      case measure => omega
      case rel => exact ⟨k + 1, _, by omega, by omega, by go_num, rfl⟩
    · have : k = n := by omega
      subst this
      go_wp2
      go_ret
      exact ⟨rfl, q, rfl⟩
end Go.Proofs.Ybulkeepk
