import Derived.Test.YbulkeeoiDoorSt2
import Derived.Laws.MakeOwn
namespace Go.Proofs.YbulkeeoiDoor
open Go.RowKit Go.Sort
set_option linter.unusedVariables false

theorem setMap_grown {w : World} {r : Nat} {m : ByteArray → Option Value} (h : MapAt w r m) (s : ByteArray) (v : Value) : w.grownBy (setMap w r s v) (some r) := by
  obtain ⟨_, f2, f3, f4, f5, f6⟩ := setMap_facts h s v
  exact ⟨f4, f5, f6, by omega, fun k _ hk => f3 k (fun e => hk (by rw [e]))⟩

theorem St2.turn {I : In} {N : Int} {w : World} {T i1 i2 : Nat} {rv wv : Value} {wr wr' : World} {r : Nat} (h : St2 I N w T i1 i2 rv wv wr) (hg : wr.grownBy wr' (some r)) (hr : T + 2 ≤ r) (h1 : rv.ownBlock ≠ some r) (h2 : wv.ownBlock ≠ some r) : St2 I N w T i1 i2 rv wv wr' where
  bel := h.bel.grown hg h.bel.size (fun k hk => by have := h.tw; injection hk with hk; omega)
  tw := h.tw
  sz := Nat.le_trans h.sz hg.size
  kT := h.kT.grown hg (by intro e; injection e with e; omega)
  kU := h.kU.grown hg (by intro e; injection e with e; omega)
  o2 := h.o2.kept hg (Or.inr h1)
  o3 := h.o3.kept hg (Or.inr h2)
  ap := h.ap

theorem run_make72 (w : World) (l n : Nat) (hl : l ≤ n) (hn : n ≤ 1048576) :
    Sem.run Ybad.prog (Instr.makeSlice 72 (.int .i64 (l : Int)) (.int .i64 (n : Int))) w = .ok (.slice (some ⟨w.heap.size, 0, none⟩) l n) (w.alloc (.cells (madeCells (bc 0 0 { data := #[] } 0 0) (n * 15)) 86)) := by
  obtain ⟨i0, hi, hz0, hz1, hz2⟩ := info_parts info86
  have h := run_make (P := Ybad.prog) w 72 86 i0 _ Ybad.underlying72 hi hz0 .i64 .i64 l n (by omega) (by omega) (by rw [hz2]; omega) (by omega)
  rw [hz1] at h
  exact h

abbrev pv (I : In) (q : Nat) : Value := .agg #[.int .u64 (I.pb q : Int), .slice none 0 0]

/-- While the registrar's maps are filled. -/
structure St3 (I : In) (N : Int) (w : World) (T D k1 k2 : Nat) (rv wv : Value) (f1 f2 : ByteArray → Option Value) (wr : World) : Prop where
  s2 : St2 I N w T I.L0 I.L0 rv wv wr
  hd : T + 2 ≤ D
  sz : D + 3 ≤ wr.heap.size
  rb : ∀ j, rv.ownBlock = some j → j < D
  wb : ∀ j, wv.ownBlock = some j → j < D
  m1 : MapAt wr D f1
  q1 : ∀ q, q < 6 → f1 (aorS q) = if q < k1 then some (pv I q) else none
  m2 : MapAt wr (D + 1) f2
  q2 : ∀ q, q < 6 → (q < k2 → ∃ a, f2 (aorS q) = some (.slice a (I.bd q % 3) (I.bd q % 3))) ∧ (¬ q < k2 → f2 (aorS q) = none)
  r9 : wr.cell? ⟨D + 1 + 1, 9, none⟩ = some (.map (some D))
  r14 : wr.cell? ⟨D + 1 + 1, 14, none⟩ = some (.map (some (D + 1)))

section
variable {I : In} {N : Int} {w : World} {T D k1 k2 : Nat} {rv wv : Value} {f1 f2 : ByteArray → Option Value} {wr wr' : World}

theorem St3.kept (h : St3 I N w T D k1 k2 rv wv f1 f2 wr) (hb : Below wr.heap.size wr wr') : St3 I N w T D k1 k2 rv wv f1 f2 wr' :=
  { h with s2 := h.s2.kept hb, sz := Nat.le_trans h.sz hb.size, m1 := h.m1.kept hb, m2 := h.m2.kept hb, r9 := cell_kept h.r9 hb, r14 := cell_kept h.r14 hb }
theorem St3.alloc (h : St3 I N w T D k1 k2 rv wv f1 f2 wr) (o : Obj) : St3 I N w T D k1 k2 rv wv f1 f2 (wr.alloc o) := h.kept ((Below.refl _ wr).alloc (Nat.le_refl _) o)
theorem St3.drew (h : St3 I N w T D k1 k2 rv wv f1 f2 wr) : St3 I N w T D k1 k2 rv wv f1 f2 wr.drew := h.kept (Below.refl _ wr).drew

theorem ne_of_lt {v : Value} {D r : Nat} (h : ∀ j, v.ownBlock = some j → j < D) (hr : D ≤ r) : v.ownBlock ≠ some r := fun e => by have := h r e; omega

theorem St3.turn {r : Nat} (h : St3 I N w T D k1 k2 rv wv f1 f2 wr) (hg : wr.grownBy wr' (some r)) (hr : D + 3 ≤ r) : St3 I N w T D k1 k2 rv wv f1 f2 wr' :=
  { h with
    s2 := h.s2.turn hg (by have := h.hd; omega) (ne_of_lt h.rb (by omega)) (ne_of_lt h.wb (by omega))
    sz := Nat.le_trans h.sz hg.size
    m1 := h.m1.grown hg (by intro e; injection e with e; omega)
    m2 := h.m2.grown hg (by intro e; injection e with e; omega)
    r9 := by rw [hg.cell_far ⟨D + 1 + 1, 9, none⟩ (World.block_lt_of_cell? _ _ h.r9) (by show some (D + 1 + 1) ≠ _; intro e; injection e with e; omega)]; exact h.r9
    r14 := by rw [hg.cell_far ⟨D + 1 + 1, 14, none⟩ (World.block_lt_of_cell? _ _ h.r14) (by show some (D + 1 + 1) ≠ _; intro e; injection e with e; omega)]; exact h.r14 }

theorem aor_ne {q k : Nat} (hq : q < 6) (hk : k < 6) (h : ¬ q = k) : ¬ aorS q = aorS k := fun e => by
  have := aorS_inj e
  omega

theorem St3.put1 (h : St3 I N w T D k1 k2 rv wv f1 f2 wr) (hk : k1 < 6) : St3 I N w T D (k1 + 1) k2 rv wv (upd f1 (aorS k1) (pv I k1)) f2 (setMap wr D (aorS k1) (pv I k1)) := by
  have hg := setMap_grown h.m1 (aorS k1) (pv I k1)
  exact { h with
    s2 := h.s2.turn hg (by have := h.hd; omega) (ne_of_lt h.rb (by omega)) (ne_of_lt h.wb (by omega))
    sz := Nat.le_trans h.sz hg.size
    m1 := (setMap_facts h.m1 _ _).1
    q1 := fun q hq => by
      unfold upd
      by_cases e : q = k1
      · subst e; rw [if_pos rfl, if_pos (by omega)]
      · rw [if_neg (aor_ne hq hk e), h.q1 q hq]
        by_cases e2 : q < k1
        · rw [if_pos e2, if_pos (by omega)]
        · rw [if_neg e2, if_neg (by omega)]
    m2 := h.m2.grown hg (by intro e; injection e with e; omega)
    r9 := by rw [hg.cell_far ⟨D + 1 + 1, 9, none⟩ (World.block_lt_of_cell? _ _ h.r9) (by show some (D + 1 + 1) ≠ _; intro e; injection e with e; omega)]; exact h.r9
    r14 := by rw [hg.cell_far ⟨D + 1 + 1, 14, none⟩ (World.block_lt_of_cell? _ _ h.r14) (by show some (D + 1 + 1) ≠ _; intro e; injection e with e; omega)]; exact h.r14 }

theorem St3.put2 (h : St3 I N w T D k1 k2 rv wv f1 f2 wr) (hk : k2 < 6) (a : Option Addr) : St3 I N w T D k1 (k2 + 1) rv wv f1 (upd f2 (aorS k2) (.slice a (I.bd k2 % 3) (I.bd k2 % 3))) (setMap wr (D + 1) (aorS k2) (.slice a (I.bd k2 % 3) (I.bd k2 % 3))) := by
  have hg := setMap_grown h.m2 (aorS k2) (.slice a (I.bd k2 % 3) (I.bd k2 % 3))
  exact { h with
    s2 := h.s2.turn hg (by have := h.hd; omega) (ne_of_lt h.rb (by omega)) (ne_of_lt h.wb (by omega))
    sz := Nat.le_trans h.sz hg.size
    m2 := (setMap_facts h.m2 _ _).1
    q2 := fun q hq => by
      unfold upd
      by_cases e : q = k2
      · subst e
        refine ⟨fun _ => ⟨a, by rw [if_pos rfl]⟩, fun hn => by omega⟩
      · rw [if_neg (aor_ne hq hk e)]
        exact ⟨fun h1 => (h.q2 q hq).1 (by omega), fun h1 => (h.q2 q hq).2 (by omega)⟩
    m1 := h.m1.grown hg (by intro e; injection e with e; omega)
    r9 := by rw [hg.cell_far ⟨D + 1 + 1, 9, none⟩ (World.block_lt_of_cell? _ _ h.r9) (by show some (D + 1 + 1) ≠ _; intro e; injection e with e; omega)]; exact h.r9
    r14 := by rw [hg.cell_far ⟨D + 1 + 1, 14, none⟩ (World.block_lt_of_cell? _ _ h.r14) (by show some (D + 1 + 1) ≠ _; intro e; injection e with e; omega)]; exact h.r14 }
end
end Go.Proofs.YbulkeeoiDoor
