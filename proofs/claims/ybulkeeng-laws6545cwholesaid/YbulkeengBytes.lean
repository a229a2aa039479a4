import Derived.Test.YbulkeengSlices
import Derived.Laws.CopyOwn
import Derived.Laws.MakeOwn
namespace Go.Proofs.Ybulkeeng
open Go.RowKit

/-- A byte. -/
def IsB (v : Value) : Prop := ∃ z : Int, v = .int .u8 z ∧ 0 ≤ z ∧ z ≤ 255
/-- Block g is a row of 'cap' bytes. -/
def Bys (w : World) (g cap : Nat) : Prop := ∃ cur : Array Value, w.heap[g]? = some (.cells cur 5 (0, 0)) ∧ cur.size = cap ∧ ∀ v ∈ cur.toList, IsB v

theorem IsB.mk {z : Int} (h0 : 0 ≤ z) (h1 : z ≤ 255) : IsB (.int .u8 z) := ⟨z, rfl, h0, h1⟩
theorem IsB.one {v : Value} (h : IsB v) : v.oneCell' = true := by obtain ⟨z, rfl, _⟩ := h; rfl

theorem Bys.cell {w : World} {g cap : Nat} (h : Bys w g cap) (i : Nat) (hi : i < cap) : ∃ z : Int, w.cell? ⟨g, i, none⟩ = some (.int .u8 z) ∧ 0 ≤ z ∧ z ≤ 255 := by
  obtain ⟨cur, hg, hs, hb⟩ := h
  subst hs
  obtain ⟨z, hz, h0, h1⟩ := hb cur[i] (by simp)
  refine ⟨z, ?_, h0, h1⟩
  simp [World.cell?, hg, hi, hz]
theorem Bys.frozen {w : World} {g cap : Nat} (h : Bys w g cap) (i : Nat) : w.frozen? ⟨g, i, none⟩ = false := by
  obtain ⟨cur, hg, hs, hb⟩ := h
  simp [World.frozen?, hg]
theorem Bys.lt {w : World} {g cap : Nat} (h : Bys w g cap) : g < w.heap.size := by
  obtain ⟨cur, hg, _⟩ := h
  exact (Array.getElem?_eq_some_iff.1 hg).1
theorem Bys.drewN {w : World} {g cap : Nat} (h : Bys w g cap) (n : Nat) : Bys (w.drewN n) g cap := h
theorem Bys.alloc {w : World} {g cap : Nat} (h : Bys w g cap) (o : Obj) : Bys (w.alloc o) g cap := by
  have hl := h.lt
  obtain ⟨cur, hg, r⟩ := h
  exact ⟨cur, by rw [Below.heap_alloc _ _ _ hl]; exact hg, r⟩
theorem Bys.below {w w' : World} {g cap : Nat} (h : Bys w g cap) (hb : Below w.heap.size w w') : Bys w' g cap := by
  have hl := h.lt
  obtain ⟨cur, hg, r⟩ := h
  exact ⟨cur, by rw [hb.block _ hl]; exact hg, r⟩
theorem Bys.setCell {w : World} {g cap : Nat} (h : Bys w g cap) (b i : Nat) {v : Value} (hv : IsB v) : Bys (w.setCell ⟨b, i, none⟩ v) g cap := by
  obtain ⟨cur, hg, hs, hb⟩ := h
  by_cases e : g = b
  · subst e
    refine ⟨cur.setIfInBounds i v, ?_, by simpa using hs, ?_⟩
    · rw [setCell_eq_setRow w g i cur 5 (0, 0) v hg]; exact setRow_heap w g cur _ 5 _ hg
    · intro u hu
      rw [Array.toList_setIfInBounds] at hu
      rcases List.mem_or_eq_of_mem_set hu with h1 | h1
      · exact hb u h1
      · rw [h1]; exact hv
  · exact ⟨cur, by rw [Below.heap_setCell _ _ _ _ e]; exact hg, hs, hb⟩
theorem Bys.ofAlloc {w : World} {cur : Array Value} (hb : ∀ v ∈ cur.toList, IsB v) : Bys (w.alloc (.cells cur 5)) w.heap.size cur.size :=
  ⟨cur, by show (w.heap.push _)[w.heap.size]? = _; simp, rfl, hb⟩

theorem bytes_zero (n : Nat) : ∀ v ∈ (madeCells #[.int .u8 0] n).toList, IsB v := by
  intro v hv
  simp [madeCells] at hv
  obtain ⟨i, _, rfl⟩ := hv
  have : i % 1 = 0 := by omega
  simp [this]
  exact IsB.mk (by decide) (by decide)

theorem run_make5 (w : World) (n : Nat) (hn : n ≤ 2000000) :
    Sem.run Yba.prog (Instr.makeSlice 22 (.int .i64 (n : Int)) (.int .i64 (n : Int))) w = .ok (.slice (some ⟨w.heap.size, 0, none⟩) n n) (w.alloc (.cells (madeCells #[.int .u8 0] n) 5)) := by
  obtain ⟨i0, hi, hz0, hz1, hz2⟩ := info_parts info5
  have h := run_make (P := Yba.prog) w 22 5 i0 (.int .u8 0) Yba.underlying22 hi hz0 .i64 .i64 n n (by omega) (by omega) (by rw [hz2]; omega) (by omega)
  rw [hz1] at h
  simpa [Value.cells] using h

/-- 'append(s, make([]byte, n)...)' past the capacity. -/
theorem run_append_zeros (w : World) (ty : TypeId) (b : Addr) (sLen sCap n : Nat) (olds : List Value) (hlo : olds.length = sLen) (holds : ∀ j v, olds[j]? = some v → w.cell? (b.add j) = some v)
    (hg : sCap < sLen + n) (h0 : 0 < n) (hbig : sLen + n ≤ 2000000) :
    (Builtin.append_ #[22, 3] ty #[.slice (some b) sLen sCap, .int .i64 (n : Int)]).run Yba.prog w =
      .ok (.slice (some ⟨w.heap.size, 0, none⟩) (sLen + n) (grownCap w (sLen + n) sCap 5))
        (w.drew.alloc (.cells (olds.toArray ++ Builtin.zeroCells #[.int .u8 0] n ++ Builtin.zeroCells #[.int .u8 0] (grownCap w (sLen + n) sCap 5 - (sLen + n))) 5)) := by
  obtain ⟨i, hi, hz, hz1, hz2⟩ := info_parts info5
  have hn : ¬ (sLen + n ≤ sCap) := by omega
  have h63' : ¬ (9223372036854775807 < ((sLen : Int) + (n : Int))) := by omega
  have hfit := growslice_fits (need := sLen + n) (old := sCap) (bytes := 1) hg (by omega)
  have h48' : ¬ (281474976710656 < Builtin.nextslicecap (sLen + n) sCap * i.bytes) := by rw [hz2]; omega
  have hfo := run_firstCells_some (P := Yba.prog) w.drew i.size sLen b sLen sCap olds (by rw [hz1]; omega) (by simpa using holds)
  have wl : IntKind.i64.wrap (n : Int) = n := by rw [IntKind.wrap_i64]; omega
  have l0 : ¬ ((n : Int) < 0) := by omega
  have l1 : ¬ (281474976710656 < (n : Int) * (i.bytes : Int)) := by rw [hz2]; omega
  have n0 : ¬ (n * i.size = 0) := by rw [hz1]; omega
  have n0' : n ≠ 0 := by omega
  rw [hz1] at hfo
  simp [Builtin.append_, run_underlying Yba.underlying22, run_underlying Yba.underlying3, Go.sizeOf, typeInfo, zeroValue, hi, hz, hz1, asInt, asIntOf, wl, l0, l1, n0', hn, h63', h48', Question.forced, hfo, newRow, grownCap, Value.cells]
end Go.Proofs.Ybulkeeng
