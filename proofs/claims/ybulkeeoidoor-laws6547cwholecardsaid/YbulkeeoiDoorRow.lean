import Derived.Test.YbulkeeoiDoorMap
import Derived.Deep.RegionHeld3
import Derived.Deep.AppendLies
import Derived.OwnWalk
import Derived.Deep.Onto
namespace Go.Proofs.YbulkeeoiDoor
open Go.RowKit
set_option linter.unusedVariables false

theorem info102 : (Ybad.prog.info? 102).map (fun i => (i.zero, i.size, i.bytes)) = some (some (.agg (cc { data := #[] } 0 0 0 { data := #[] })), 5, 56) := by kernel_rfl
theorem info98 : (Ybad.prog.info? 98).map (fun i => (i.zero, i.size, i.bytes)) = some (some (.agg #[.string { data := #[] }, .string { data := #[] }, .int .i64 0, .slice none 0 0]), 4, 64) := by kernel_rfl
theorem info86 : (Ybad.prog.info? 86).map (fun i => (i.zero, i.size, i.bytes)) = some (some (.agg (bc 0 0 { data := #[] } 0 0)), 15, 200) := by kernel_rfl
theorem info9 : (Ybad.prog.info? 9).map (fun i => (i.zero, i.size, i.bytes)) = some (some (.string { data := #[] }), 1, 16) := by kernel_rfl

/-- n rows, one behind the other. -/
def rows (F : Nat → List Value) : Nat → List Value
  | 0 => []
  | n + 1 => rows F n ++ F n
theorem rows_length {F : Nat → List Value} {size : Nat} (hF : ∀ i, (F i).length = size) : ∀ n, (rows F n).length = n * size
  | 0 => by simp [rows]
  | n + 1 => by rw [rows, List.length_append, rows_length hF n, hF, Nat.succ_mul]
theorem rows_get {F : Nat → List Value} {size : Nat} (hF : ∀ i, (F i).length = size) : ∀ n i t, i < n → t < size → (rows F n)[i * size + t]? = (F i)[t]?
  | 0, i, t, h, _ => by omega
  | n + 1, i, t, h, ht => by
    rw [rows]
    by_cases hi : i = n
    · subst hi
      rw [List.getElem?_append_right (by rw [rows_length hF]; omega), rows_length hF, Nat.add_sub_cancel_left]
    · rw [List.getElem?_append_left ?_, rows_get hF n i t (by omega) ht]
      rw [rows_length hF]
      have : (i + 1) * size ≤ n * size := Nat.mul_le_mul_right _ (by omega)
      rw [Nat.succ_mul] at this
      omega
theorem rows_congr {F G : Nat → List Value} : ∀ n, (∀ i, i < n → F i = G i) → rows F n = rows G n
  | 0, _ => rfl
  | n + 1, h => by rw [rows, rows, rows_congr n (fun i hi => h i (by omega)), h n (by omega)]

theorem grown_of_below {w w' : World} (h : Below w.heap.size w w') : w.grownBy w' none := ⟨h.os, h.tape, h.output, h.size, fun k hk _ => h.block k hk⟩
theorem own_kept {w w' : World} {base : Nat} {e : TypeId} {size : Nat} {v : Value} {n : Nat} {xs : List Value} (h : w.ownsRow base e size v n xs) (hb : Below w.heap.size w w') : w'.ownsRow base e size v n xs := by
  refine h.kept (grown_of_below hb) ?_
  cases hv : v.ownBlock with
  | none => exact Or.inl rfl
  | some g => exact Or.inr (by simp)
/-- A store into a block that is not the row's. -/
theorem own_set {w : World} {base : Nat} {e : TypeId} {size : Nat} {v : Value} {n : Nat} {xs : List Value} (h : w.ownsRow base e size v n xs) {a : Addr} (ha : a.block < base) (u : Value) : (w.setCell a u).ownsRow base e size v n xs := ownsRow_setCell_below h ha u
theorem Blk.grown {w w' : World} {b : Nat} {C : Array Value} {t : TypeId} {row : Option Nat} (h : Blk w b C t) (hg : w.grownBy w' row) (hne : some b ≠ row) : Blk w' b C t := by
  rw [Blk, hg.block b h.lt hne]; exact h
theorem MapAt.grown {w w' : World} {r : Nat} {m : ByteArray → Option Value} {row : Option Nat} (h : MapAt w r m) (hg : w.grownBy w' row) (hne : some r ≠ row) : MapAt w' r m := h.block (hg.block r h.lt hne)
theorem own_ne {w : World} {base : Nat} {e : TypeId} {size : Nat} {v : Value} {n : Nat} {xs : List Value} (h : w.ownsRow base e size v n xs) {b : Nat} (hb : b < base) : some b ≠ v.ownBlock := fun e => by
  have := (h.lt b e.symm).1
  omega
theorem zero71 (w : World) : (zeroValue 71).run Ybad.prog w = .ok (.agg #[.int .u64 0, .slice none 0 0]) w := by
  have h : (Ybad.prog.info? 71).map (·.zero) = some (some (.agg #[.int .u64 0, .slice none 0 0])) := by kernel_rfl
  obtain ⟨i, h1, h2⟩ := Option.map_eq_some_iff.1 h
  simp [zeroValue, typeInfo, h1, h2]
theorem zero72 (w : World) : (zeroValue 72).run Ybad.prog w = .ok (.slice none 0 0) w := by
  have h : (Ybad.prog.info? 72).map (·.zero) = some (some (.slice none 0 0)) := by kernel_rfl
  obtain ⟨i, h1, h2⟩ := Option.map_eq_some_iff.1 h
  simp [zeroValue, typeInfo, h1, h2]
theorem look48 {w : World} {r : Nat} {m : ByteArray → Option Value} (h : MapAt w r m) (s : ByteArray) : (Instr.lookup 48 (.map (some r)) (.string s) false).run Ybad.prog w = .ok ((m s).getD (.agg #[.int .u64 0, .slice none 0 0])) w := run_lookup Ybad.underlying48 Ybad.underlying9 (zero71 w) h s
theorem look49 {w : World} {r : Nat} {m : ByteArray → Option Value} (h : MapAt w r m) (s : ByteArray) : (Instr.lookup 49 (.map (some r)) (.string s) false).run Ybad.prog w = .ok ((m s).getD (.slice none 0 0)) w := run_lookup Ybad.underlying49 Ybad.underlying9 (zero72 w) h s
theorem look49_ok {w : World} {r : Nat} {m : ByteArray → Option Value} (h : MapAt w r m) (s : ByteArray) : (Instr.lookup 49 (.map (some r)) (.string s) true).run Ybad.prog w = .ok (.tuple #[(m s).getD (.slice none 0 0), .bool (m s).isSome]) w := run_lookup_ok Ybad.underlying49 Ybad.underlying9 (zero72 w) h s
theorem store48 {w : World} {r : Nat} {m : ByteArray → Option Value} (h : MapAt w r m) (s : ByteArray) (v : Value) : (Instr.mapUpdate 48 (.map (some r)) (.string s) v).run Ybad.prog w = .ok () (setMap w r s v) := run_update Ybad.underlying48 Ybad.underlying9 h s v
theorem store49 {w : World} {r : Nat} {m : ByteArray → Option Value} (h : MapAt w r m) (s : ByteArray) (v : Value) : (Instr.mapUpdate 49 (.map (some r)) (.string s) v).run Ybad.prog w = .ok () (setMap w r s v) := run_update Ybad.underlying49 Ybad.underlying9 h s v

set_option maxRecDepth 100000 in
theorem results16 (b : Nat) (tm : Array Value) (wF : World) (v0 v1 v2 v3 : Value) (h4 : tm[12]?.getD undef = .pointer (some ⟨b, 0, none⟩)) (hB : Blk wF b #[v0, v1, v2, v3] 98) :
    (results Ybad.f16 tm).run Ybad.prog wF = .ok (.agg #[v0, v1, v2, v3]) wF := by
  have c0 := hB.cell 0 _ rfl
  have c1 := hB.cell 1 _ rfl
  have c2 := hB.cell 2 _ rfl
  have c3 := hB.cell 3 _ rfl
  simp [results, Ybad.results16, go_sem, h4] at *
  simp [c0, c1, c2, c3, go_sem]
end Go.Proofs.YbulkeeoiDoor
