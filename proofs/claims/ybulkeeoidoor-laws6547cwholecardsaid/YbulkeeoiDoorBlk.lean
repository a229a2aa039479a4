import Derived.Test.YbulkeeoiDoorBind
import Derived.Deep.DeepCutAuto
import Derived.Deep.CutBlock
namespace Go.Proofs.YbulkeeoiDoor
open Go.RowKit Go.Sort
set_option linter.unusedVariables false

/-- Block b holds just these cells. -/
abbrev Blk (w : World) (b : Nat) (C : Array Value) (t : TypeId) : Prop := w.heap[b]? = some (.cells C t (0, 0))
theorem Blk.cell {w : World} {b : Nat} {C : Array Value} {t : TypeId} (h : Blk w b C t) (i : Nat) (v : Value) (hv : C[i]? = some v) : w.cell? ⟨b, i, none⟩ = some v := by
  simp [World.cell?, h, hv]
theorem Blk.frozen {w : World} {b : Nat} {C : Array Value} {t : TypeId} (h : Blk w b C t) (i : Nat) : w.frozen? ⟨b, i, none⟩ = false := by
  simp [World.frozen?, h]
theorem Blk.lt {w : World} {b : Nat} {C : Array Value} {t : TypeId} (h : Blk w b C t) : b < w.heap.size := by
  rcases Nat.lt_or_ge b w.heap.size with h' | h'
  · exact h'
  · rw [Blk, Array.getElem?_eq_none h'] at h; cases h
theorem Blk.below {w w' : World} {b B : Nat} {C : Array Value} {t : TypeId} (h : Blk w b C t) (hb : Below B w w') (hlt : b < B) : Blk w' b C t := by
  rw [Blk, hb.block b hlt]; exact h
theorem Blk.kept {w w' : World} {b : Nat} {C : Array Value} {t : TypeId} (h : Blk w b C t) (hb : Below w.heap.size w w') : Blk w' b C t := h.below hb h.lt
theorem Blk.alloc {w : World} {b : Nat} {C : Array Value} {t : TypeId} (h : Blk w b C t) (o : Obj) : Blk (w.alloc o) b C t := by
  rw [Blk, Below.heap_alloc _ _ _ h.lt]; exact h
theorem Blk.made (w : World) (C : Array Value) (t : TypeId) : Blk (w.alloc (.cells C t)) w.heap.size C t := top w _ _ rfl

theorem Blk.set {w : World} {b : Nat} {C : Array Value} {t : TypeId} (h : Blk w b C t) (i : Nat) (v : Value) : Blk (w.setCell ⟨b, i, none⟩ v) b (C.setIfInBounds i v) t := by
  have h' : w.heap[b]? = some (.cells C t (0, 0)) := h
  show (w.setCell ⟨b, i, none⟩ v).heap[b]? = _
  simp [World.setCell, Array.getElem?_modify, h']
theorem Blk.other {w : World} {b : Nat} {C : Array Value} {t : TypeId} (h : Blk w b C t) (b' i : Nat) (v : Value) (hne : b ≠ b') : Blk (w.setCell ⟨b', i, none⟩ v) b C t := by
  rw [Blk, Below.heap_setCell _ _ _ _ hne]; exact h

theorem below_alloc {a w : World} (h : Below a.heap.size a w) (o : Obj) : Below a.heap.size a (w.alloc o) := h.alloc h.size o
theorem below_set {a w : World} (h : Below a.heap.size a w) (b i : Nat) (v : Value) (hb : a.heap.size ≤ b) : Below a.heap.size a (w.setCell ⟨b, i, none⟩ v) := h.setCell hb v

theorem num_size {u : Nat} (hu : u < 18446744073709551616) : (num u).size ≤ 20 := by
  show (Lib.decDigits u).toArray.size ≤ 20
  rw [List.size_toArray, Lib.decDigits_length]
  rcases Nat.eq_zero_or_pos u with h | h
  · subst h; rw [Lib.nDigits_small (by omega)]; omega
  · have := Lib.numDigits_eq u h hu; split at this <;> omega

set_option maxRecDepth 100000 in
theorem results20 (b : Nat) (tm : Array Value) (wF : World) (v0 v1 v2 v3 v4 : Value) (h4 : tm[4]?.getD undef = .pointer (some ⟨b, 0, none⟩)) (hB : Blk wF b #[v0, v1, v2, v3, v4] 102) :
    (results Ybad.f20 tm).run Ybad.prog wF = .ok (.agg #[v0, v1, v2, v3, v4]) wF := by
  have c0 := hB.cell 0 _ rfl
  have c1 := hB.cell 1 _ rfl
  have c2 := hB.cell 2 _ rfl
  have c3 := hB.cell 3 _ rfl
  have c4 := hB.cell 4 _ rfl
  simp [results, Ybad.results20, go_sem, h4] at *
  simp [c0, c1, c2, c3, c4, go_sem]

/-- State and expiry of a contact. -/
def cst (ev : Int) : Int := if ev = 3 ∨ ev = 4 then 2 else 1
def cex (ev D : Int) : Int := if ev = 3 ∨ ev = 4 then 0 else Fl.ceilSec D

end Go.Proofs.YbulkeeoiDoor
