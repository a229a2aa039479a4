import Derived.Test.YbulkeepkDown
import Derived.Laws.IdiomCopy
namespace Go.Proofs.Ybulkeepk.Hp
open Go.RowKit
set_option linter.unusedVariables false

theorem below_setCells (b : Nat) : ∀ (vs : List Value) (o : Nat) (w : World), Below b w (w.setCells b o vs) ∧ (w.setCells b o vs).heap.size = w.heap.size
  | [], o, w => ⟨Below.refl _ _, rfl⟩
  | v :: vs, o, w => by
    obtain ⟨h1, h2⟩ := below_setCells b vs (o + 1) (w.setCell ⟨b, o, none⟩ v)
    have h0 : Below b w (w.setCell ⟨b, o, none⟩ v) := (Below.refl b w).setCell (by exact Nat.le_refl _) v
    exact ⟨h0.trans h1, h2.trans (by simp [World.setCell])⟩

theorem run_copy1 (w : World) (T ty E : TypeId) (hu : Yba.prog.underlying T = some (.slice E)) (hs : (Yba.prog.info? E).map (·.size) = some 1) (g n c ab ao sc : Nat) (V : Nat → Value) (hone : ∀ i, i < n → (V i).oneCell' = true)
    (hsrc : ∀ i, i < n → w.cell? ⟨ab, ao + i, none⟩ = some (V i)) (hth : w.there g 0 n) :
    ∃ w', (Builtin.copy_ #[T, T] ty #[.slice (some ⟨g, 0, none⟩) n c, .slice (some ⟨ab, ao, none⟩) n sc]).run Yba.prog w = .ok (goInt n) w' ∧ Below g w w' ∧ w'.heap.size = w.heap.size ∧ w'.there g 0 n ∧ ∀ i, i < n → w'.cell? ⟨g, i, none⟩ = some (V i) := by
  have hl : ((List.range n).map V).length = n := by simp
  have hrun := run_copy_cells (P := Yba.prog) w T T ty E g 0 n c ⟨ab, ao, none⟩ n sc ((List.range n).map V) hu hs (by rw [hl]; exact (Nat.min_self n).symm)
    (fun j v hj => by
      have hjn : j < n := by have := (List.getElem?_eq_some_iff.1 hj).1; rwa [hl] at this
      simp [hjn] at hj
      rw [Addr.add_mid, ← hj]
      exact hsrc j hjn)
    (fun j hj => by rw [hl] at hj; exact (hth j hj).1) (fun j hj => by rw [hl] at hj; exact (hth j hj).2)
    (fun v hv => by
      simp at hv
      obtain ⟨i, hi, rfl⟩ := hv
      exact hone i hi)
  rw [hl] at hrun
  refine ⟨_, hrun, (below_setCells g _ 0 w).1, (below_setCells g _ 0 w).2, World.there_setCells hth _ _ _, fun i hi => ?_⟩
  have := World.cell?_setCells_in g ((List.range n).map V) 0 w (fun j hj => by rw [hl] at hj; exact (hth j hj).1) i (by rw [hl]; exact hi)
  simpa using this

theorem wpList_copy1 {ops : Array Oper} {rest : List Oper} {o : Oper} {a : Act} {Q : Exit → Act → World → Prop} {w : World} (hgd : o.guard = none) (T E : TypeId) (hu : Yba.prog.underlying T = some (.slice E)) (hs1 : (Yba.prog.info? E).map (·.size) = some 1) (d s : Operand)
    (ho : o.op = .call { callee := .builtin .copy, args := #[d, s], argTypes := #[T, T] }) (g n c : Nat) (hd : a.eval d = .slice (some ⟨g, 0, none⟩) n c)
    (ab ao sc : Nat) (hs : a.eval s = .slice (some ⟨ab, ao, none⟩) n sc) (V : Nat → Value) (hone : ∀ i, i < n → (V i).oneCell' = true) (hsrc : ∀ i, i < n → w.cell? ⟨ab, ao + i, none⟩ = some (V i)) (hth : w.there g 0 n)
    (h : ∀ w', Below g w w' → w'.heap.size = w.heap.size → w'.there g 0 n → (∀ i, i < n → w'.cell? ⟨g, i, none⟩ = some (V i)) → wpList Yba.prog ops Q rest (a.put o.dst (goInt n)) w') : wpList Yba.prog ops Q (o :: rest) a w := by
  refine wpList_plain hgd fun K hK => ?_
  obtain ⟨w', hrun, h1, h2, h3, h4⟩ := run_copy1 w T o.type E hu hs1 g n c ab ao sc V hone hsrc hth
  unfold Oper.wp
  simp [execOp, ho, resolve, invoke, builtin, hd, hs, hrun, Result.andThen]
  exact hK _ _ (h w' h1 h2 h3 h4)

theorem info3 : (Yba.prog.info? 3).map (fun i => (i.zero, i.size, i.bytes)) = some (some (.int .i64 0), 1, 8) := by kernel_rfl
theorem info66 : (Yba.prog.info? 66).map (fun i => (i.zero, i.size, i.bytes)) = some (some (.float .f64 0), 1, 8) := by kernel_rfl
theorem size3 : (Yba.prog.info? 3).map (·.size) = some 1 := by kernel_rfl
theorem size66 : (Yba.prog.info? 66).map (·.size) = some 1 := by kernel_rfl
theorem run_make22 (w : World) (n : Nat) (hn : n ≤ 65536) :
    Sem.run Yba.prog (Instr.makeSlice 22 (.int .i64 (n : Int)) (.int .i64 (n : Int))) w = .ok (.slice (some ⟨w.heap.size, 0, none⟩) n n) (w.alloc (.cells (madeCells #[.int .i64 0] n) 3)) := by
  obtain ⟨i0, hi, hz0, hz1, hz2⟩ := info_parts info3
  have h := run_make (P := Yba.prog) w 22 3 i0 _ Yba.underlying22 hi hz0 .i64 .i64 n n (by omega) (by omega) (by rw [hz2]; omega) (by omega)
  rw [hz1] at h
  simpa [Value.cells] using h
theorem run_make56 (w : World) (n : Nat) (hn : n ≤ 65536) :
    Sem.run Yba.prog (Instr.makeSlice 56 (.int .i64 (n : Int)) (.int .i64 (n : Int))) w = .ok (.slice (some ⟨w.heap.size, 0, none⟩) n n) (w.alloc (.cells (madeCells #[.float .f64 0] n) 66)) := by
  obtain ⟨i0, hi, hz0, hz1, hz2⟩ := info_parts info66
  have h := run_make (P := Yba.prog) w 56 66 i0 _ Yba.underlying56 hi hz0 .i64 .i64 n n (by omega) (by omega) (by rw [hz2]; omega) (by omega)
  rw [hz1] at h
  simpa [Value.cells] using h
theorem made_cell (w : World) (n i : Nat) (hi : i < n) : (w.alloc (.cells (madeCells #[.int .i64 0] n) 3)).cell? ⟨w.heap.size, i, none⟩ = some (.int .i64 0) := by
  have h := top w (.cells (madeCells #[.int .i64 0] n) 3) _ rfl
  simp only [World.cell?, h]
  simp [madeCells, hi, Nat.mod_one]
end Go.Proofs.Ybulkeepk.Hp
