import Derived.Test.YbulkeeoiDoorRow
namespace Go.Proofs.YbulkeeoiDoor
open Go.RowKit
set_option linter.unusedVariables false

/-- How a slice is indexed: element k lies in block g from place f k on. -/
def Idx (T : TypeId) (v : Value) (n g : Nat) (f : Nat → Nat) : Prop := ∀ k, k < n → ∀ wx, Sem.run Ybad.prog (Instr.indexAt T v (.int .i64 (k : Int))) wx = .ok (.pointer (some ⟨g, f k, none⟩)) wx
/-- What the elements hold. -/
def At (w : World) (n g : Nat) (f : Nat → Nat) (F : Nat → List Value) : Prop := ∀ k, k < n → ∀ t u, (F k)[t]? = some u → w.cell? ⟨g, f k + t, none⟩ = some u
theorem At.kept {w w' : World} {n g : Nat} {f : Nat → Nat} {F : Nat → List Value} (h : At w n g f F) (hb : Below w.heap.size w w') : At w' n g f F := fun k hk t u hu => by
  have := h k hk t u hu
  rw [hb.cell (World.block_lt_of_cell? w _ this)]
  exact this
theorem At.below {w w' : World} {n g B : Nat} {f : Nat → Nat} {F : Nat → List Value} (h : At w n g f F) (hb : Below B w w') (hg : g < B) : At w' n g f F := fun k hk t u hu => by
  have := h k hk t u hu
  rw [hb.cell (by exact hg)]
  exact this

theorem idx_of {T e : TypeId} {size : Nat} (ht : Ybad.prog.underlying T = some (.slice e)) (hs : ∀ w, Sem.run Ybad.prog (sizeOf e) w = .ok size w) (g n cap : Nat) : Idx T (.slice (some ⟨g, 0, none⟩) n cap) n g (fun k => k * size) := by
  intro k hk wx
  have h0 : (0 : Int) ≤ (k : Int) := by omega
  have h1 : (k : Int) < (n : Int) := by omega
  have hel : Ybad.prog.elem T = e := by simp [Program.elem, ht]
  have hss := hs wx
  go_simp

theorem own_view {w : World} {base : Nat} {T e : TypeId} {size : Nat} {v : Value} {n : Nat} {F : Nat → List Value} (ht : Ybad.prog.underlying T = some (.slice e)) (hs : ∀ w, Sem.run Ybad.prog (sizeOf e) w = .ok size w) (hF : ∀ i, (F i).length = size)
    (h : w.ownsRow base e size v n (rows F n)) :
    ∃ a cap g, v = .slice a n cap ∧ Idx T v n g (fun k => k * size) ∧ At w n g (fun k => k * size) F ∧ (a = none → n = 0) ∧ (n ≠ 0 → base ≤ g ∧ g < w.heap.size) := by
  obtain ⟨hl, h | ⟨g, cap, cur, rfl, h1, h2, h3, h4, h5, h6⟩⟩ := h
  · obtain ⟨rfl, rfl⟩ := h
    exact ⟨none, 0, 0, rfl, fun k hk => by omega, fun k hk => by omega, fun _ => rfl, fun h => absurd rfl h⟩
  · refine ⟨_, cap, g, rfl, idx_of ht hs g n cap, fun k hk t u hu => ?_, (fun h => by cases h), fun _ => ⟨h1, (Array.getElem?_eq_some_iff.1 h2).1⟩⟩
    have htl : t < size := by rw [← hF k]; exact (List.getElem?_eq_some_iff.1 hu).1
    have e1 := rows_get hF n k t hk htl
    rw [hu, ← h6, List.getElem?_take] at e1
    split at e1
    · simp only [World.cell?, h2]
      simpa using e1
    · cases e1
end Go.Proofs.YbulkeeoiDoor
