import Derived.Test.YbulkeeoiDoorBlk
import Derived.ChangeMaps4
import Derived.Carry
namespace Go.Proofs.YbulkeeoiDoor
open Go.RowKit Go.ChangeMaps Go.MapKept
set_option linter.unusedVariables false

def strKey : Value → Option ByteArray
  | .string t => some t
  | _ => none
/-- What a list of entries holds at a string. -/
def lk : List MapEntry → ByteArray → Option Value
  | [], _ => none
  | e :: es, s => if strKey e.key = some s then some e.val else lk es s

theorem same_yes (s : ByteArray) : Instr.sameNow .string (.string s) (.string s) = some true := by
  obtain ⟨r, h1, h2⟩ := sameNow_of_keys (d := .string) (a := .string s) (b := .string s) trivial trivial
  rw [h1, h2.2 rfl]
theorem same_no {s t : ByteArray} (h : ¬ t = s) : Instr.sameNow .string (.string s) (.string t) = some false := by
  obtain ⟨r, h1, h2⟩ := sameNow_of_keys (d := .string) (a := .string s) (b := .string t) trivial trivial
  cases r
  · exact h1
  · exfalso; have := h2.1 rfl; injection this with e; exact h e.symm

theorem findNow_lk (s : ByteArray) : ∀ (l : List MapEntry) (i : Nat), (∀ e ∈ l, ∃ t, e.key = .string t) →
    (lk l s = none ∧ Instr.findNow .string (.string s) l i = some none) ∨
    ∃ j e, l[j]? = some e ∧ e.key = .string s ∧ lk l s = some e.val ∧ Instr.findNow .string (.string s) l i = some (some (i + j, e.val)) ∧ ∀ v s', lk (l.modify j fun e => { e with key := .string s, val := v }) s' = if s' = s then some v else lk l s'
  | [], i, _ => Or.inl ⟨rfl, rfl⟩
  | e :: l, i, h => by
    obtain ⟨t, ht⟩ := h e (by simp)
    have hk : strKey e.key = some t := by rw [ht]; rfl
    by_cases he : t = s
    · subst he
      refine Or.inr ⟨0, e, rfl, ht, by simp [lk, hk], ?_, fun v s' => ?_⟩
      · simp [Instr.findNow, ht, same_yes]
      · show (if strKey (.string t) = some s' then some v else lk l s') = if s' = t then some v else (if strKey e.key = some s' then some e.val else lk l s')
        rw [hk]
        show (if some t = some s' then some v else lk l s') = _
        by_cases hs : t = s'
        · subst hs; simp
        · have h2 : ¬ s' = t := fun e => hs e.symm
          simp [hs, h2]
    · have hne : ¬ strKey e.key = some s := by rw [hk]; intro e2; injection e2 with e2; exact he e2
      rcases findNow_lk s l (i + 1) (fun x hx => h x (by simp [hx])) with ⟨h1, h2⟩ | ⟨j, e0, h1, h2, h3, h4, h5⟩
      · refine Or.inl ⟨by simp [lk, hne, h1], ?_⟩
        simp [Instr.findNow, ht, same_no he, h2]
      · refine Or.inr ⟨j + 1, e0, by simpa using h1, h2, by simp [lk, hne, h3], ?_, fun v s' => ?_⟩
        · simp only [Instr.findNow, ht, same_no he, h4]
          congr 3; omega
        · rw [List.modify_succ_cons]
          by_cases hs : s' = s
          · subst hs; simp [lk, hne, h5 v]
          · simp only [lk, h5 v, if_neg hs]

theorem lk_append (s s' : ByteArray) (v : Value) (c : Nat) : ∀ (l : List MapEntry), lk l s = none → lk (l ++ [⟨.string s, v, c⟩]) s' = if s' = s then some v else lk l s'
  | [], _ => by
    show (if some s = some s' then some v else none) = if s' = s then some v else none
    by_cases hs : s' = s
    · subst hs; simp
    · have h2 : ¬ s = s' := fun e => hs e.symm
      simp [hs, h2]
  | e :: l, h => by
    have hne : ¬ strKey e.key = some s := fun e2 => by simp [lk, e2] at h
    have h' : lk l s = none := by simpa [lk, hne] using h
    rw [List.cons_append]
    by_cases hs : s' = s
    · subst hs; simp [lk, hne, lk_append s' s' v c l h']
    · simp only [lk, lk_append s s' v c l h', if_neg hs]

/-- Block r is a map from strings, and it holds m. -/
def MapAt (w : World) (r : Nat) (m : ByteArray → Option Value) : Prop := ∃ es clock, w.heap[r]? = some (.map es clock) ∧ (∀ e ∈ es.toList, ∃ t, e.key = .string t) ∧ ∀ s, lk es.toList s = m s
def upd (m : ByteArray → Option Value) (s : ByteArray) (v : Value) : ByteArray → Option Value := fun s' => if s' = s then some v else m s'

/-- The world behind a store into a map. -/
def setMap (w : World) (r : Nat) (s : ByteArray) (v : Value) : World :=
  match w.heap[r]? with
  | some (.map es clock) => match Instr.findNow .string (.string s) es.toList 0 with
    | some (some (i, _)) => setBlock w r (.map (es.modify i fun e => { e with key := .string s, val := v }) clock)
    | _ => setBlock w r (.map (es.push { key := .string s, val := v, born := clock }) (clock + 1))
  | _ => w

theorem setBlock_at {w : World} {r : Nat} {o : Obj} (h : r < w.heap.size) : (setBlock w r o).heap[r]? = some o := by simp [setBlock, h]
theorem setBlock_other {w : World} {r k : Nat} {o : Obj} (h : k ≠ r) : (setBlock w r o).heap[k]? = w.heap[k]? := by simp [setBlock, Ne.symm h]

theorem MapAt.lt {w : World} {r : Nat} {m : ByteArray → Option Value} (h : MapAt w r m) : r < w.heap.size := by
  obtain ⟨es, clock, hb, _⟩ := h
  exact (Array.getElem?_eq_some_iff.1 hb).1
theorem MapAt.block {w w' : World} {r : Nat} {m : ByteArray → Option Value} (h : MapAt w r m) (hb : w'.heap[r]? = w.heap[r]?) : MapAt w' r m := by
  obtain ⟨es, clock, h1, h2, h3⟩ := h
  exact ⟨es, clock, by rw [hb]; exact h1, h2, h3⟩
theorem MapAt.kept {w w' : World} {r : Nat} {m : ByteArray → Option Value} (h : MapAt w r m) (hb : Below w.heap.size w w') : MapAt w' r m := h.block (hb.block r h.lt)
theorem MapAt.below {w w' : World} {r B : Nat} {m : ByteArray → Option Value} (h : MapAt w r m) (hb : Below B w w') (hlt : r < B) : MapAt w' r m := h.block (hb.block r hlt)
theorem MapAt.alloc {w : World} {r : Nat} {m : ByteArray → Option Value} (h : MapAt w r m) (o : Obj) : MapAt (w.alloc o) r m := h.block (Below.heap_alloc _ _ _ h.lt)
theorem MapAt.setCell {w : World} {r : Nat} {m : ByteArray → Option Value} (h : MapAt w r m) (a : Addr) (v : Value) (hne : r ≠ a.block) : MapAt (w.setCell a v) r m := h.block (Below.heap_setCell _ _ _ _ hne)
theorem MapAt.made (w : World) : MapAt (w.alloc (.map #[] 0)) w.heap.size (fun _ => none) := ⟨#[], 0, top w _ _ rfl, by simp, fun s => rfl⟩
theorem MapAt.ext {w : World} {r : Nat} {m m' : ByteArray → Option Value} (h : MapAt w r m) (he : ∀ s, m s = m' s) : MapAt w r m' := by
  obtain ⟨es, clock, h1, h2, h3⟩ := h
  exact ⟨es, clock, h1, h2, fun s => by rw [h3 s, he s]⟩

theorem setMap_facts {w : World} {r : Nat} {m : ByteArray → Option Value} (h : MapAt w r m) (s : ByteArray) (v : Value) :
    MapAt (setMap w r s v) r (upd m s v) ∧ (setMap w r s v).heap.size = w.heap.size ∧ (∀ k, k ≠ r → (setMap w r s v).heap[k]? = w.heap[k]?) ∧ (setMap w r s v).os = w.os ∧ (setMap w r s v).tape = w.tape ∧ (setMap w r s v).output = w.output := by
  have hlt := h.lt
  obtain ⟨es, clock, h1, h2, h3⟩ := h
  rcases findNow_lk s es.toList 0 h2 with ⟨f1, f2⟩ | ⟨j, e0, f1, f2, f3, f4, f5⟩
  · have e : setMap w r s v = setBlock w r (.map (es.push { key := .string s, val := v, born := clock }) (clock + 1)) := by simp only [setMap, h1, f2]
    rw [e]
    refine ⟨⟨_, _, setBlock_at hlt, ?_, fun s' => ?_⟩, by simp [setBlock], fun k hk => setBlock_other hk, rfl, rfl, rfl⟩
    · intro x hx
      simp only [Array.toList_push, List.mem_append, List.mem_singleton] at hx
      rcases hx with hx | rfl
      · exact h2 x hx
      · exact ⟨s, rfl⟩
    · rw [Array.toList_push, lk_append s s' v clock _ f1, upd, h3]
  · rw [Nat.zero_add] at f4
    have e : setMap w r s v = setBlock w r (.map (es.modify j fun e => { e with key := .string s, val := v }) clock) := by simp only [setMap, h1, f4]
    rw [e]
    refine ⟨⟨_, _, setBlock_at hlt, ?_, fun s' => ?_⟩, by simp [setBlock], fun k hk => setBlock_other hk, rfl, rfl, rfl⟩
    · intro x hx
      rw [Array.toList_modify] at hx
      obtain ⟨n, hn⟩ := List.getElem?_of_mem hx
      rw [List.getElem?_modify] at hn
      cases hq : es.toList[n]? with
      | none => simp [hq] at hn
      | some y =>
        simp only [hq, Option.map_eq_map, Option.map_some, Option.some.injEq] at hn
        split at hn
        · exact ⟨s, by rw [← hn]⟩
        · rw [← hn]; exact h2 y (List.mem_of_getElem? hq)
    · rw [Array.toList_modify, f5 v s', upd, h3]

theorem run_update {P : Program} {w : World} {r : Nat} {t k e : TypeId} {m : ByteArray → Option Value} (ht : P.underlying t = some (.map k e)) (hk : P.underlying k = some .string) (h : MapAt w r m) (s : ByteArray) (v : Value) :
    (Instr.mapUpdate t (.map (some r)) (.string s) v).run P w = .ok () (setMap w r s v) := by
  have hkey : IsKey .string (.string s) := trivial
  obtain ⟨es, clock, h1, h2, h3⟩ := h
  rcases findNow_lk s es.toList 0 h2 with ⟨f1, f2⟩ | ⟨j, e0, f1, f2, f3, f4, f5⟩
  · simp only [setMap, h1, f2]
    simp [Instr.mapUpdate, run_underlying ht, MapKept.run_getObj_map h1, MapKept.run_checkKey hk hkey, MapKept.run_findKey hk f2, MapKept.run_setObj_map _ h1, Result.andThen, setBlock]
  · rw [Nat.zero_add] at f4
    have hj : es[j]? = some e0 := by simpa using f1
    simp only [setMap, h1, f4]
    simp [Instr.mapUpdate, run_underlying ht, MapKept.run_getObj_map h1, MapKept.run_checkKey hk hkey, MapKept.run_findKey hk f4, hj, f2, MapKept.run_keyThatStays hkey, MapKept.run_setObj_map _ h1, Result.andThen, setBlock]

theorem run_lookup {P : Program} {w : World} {r : Nat} {t k e : TypeId} {m : ByteArray → Option Value} {z : Value} (ht : P.underlying t = some (.map k e)) (hk : P.underlying k = some .string) (hz : (zeroValue e).run P w = .ok z w) (h : MapAt w r m) (s : ByteArray) :
    (Instr.lookup t (.map (some r)) (.string s) false).run P w = .ok ((m s).getD z) w := by
  have hkey : IsKey .string (.string s) := trivial
  obtain ⟨es, clock, h1, h2, h3⟩ := h
  rcases findNow_lk s es.toList 0 h2 with ⟨f1, f2⟩ | ⟨j, e0, f1, f2, f3, f4, f5⟩
  · rw [← h3, f1]
    simp [Instr.lookup, run_underlying ht, MapKept.run_getObj_map h1, MapKept.run_checkKey hk hkey, MapKept.run_findKey hk f2, hz, Result.andThen]
  · rw [← h3, f3]
    simp [Instr.lookup, run_underlying ht, MapKept.run_getObj_map h1, MapKept.run_checkKey hk hkey, MapKept.run_findKey hk f4, Result.andThen]

theorem run_lookup_ok {P : Program} {w : World} {r : Nat} {t k e : TypeId} {m : ByteArray → Option Value} {z : Value} (ht : P.underlying t = some (.map k e)) (hk : P.underlying k = some .string) (hz : (zeroValue e).run P w = .ok z w) (h : MapAt w r m) (s : ByteArray) :
    (Instr.lookup t (.map (some r)) (.string s) true).run P w = .ok (.tuple #[(m s).getD z, .bool (m s).isSome]) w := by
  have hkey : IsKey .string (.string s) := trivial
  obtain ⟨es, clock, h1, h2, h3⟩ := h
  rcases findNow_lk s es.toList 0 h2 with ⟨f1, f2⟩ | ⟨j, e0, f1, f2, f3, f4, f5⟩
  · rw [← h3, f1]
    simp [Instr.lookup, run_underlying ht, MapKept.run_getObj_map h1, MapKept.run_checkKey hk hkey, MapKept.run_findKey hk f2, hz, Result.andThen]
  · rw [← h3, f3]
    simp [Instr.lookup, run_underlying ht, MapKept.run_getObj_map h1, MapKept.run_checkKey hk hkey, MapKept.run_findKey hk f4, Result.andThen]

theorem below_map {a w : World} {B r : Nat} {m : ByteArray → Option Value} (h : Below B a w) (hr : B ≤ r) (hm : MapAt w r m) (s : ByteArray) (v : Value) : Below B a (setMap w r s v) := by
  obtain ⟨_, f2, f3, f4, f5, f6⟩ := setMap_facts hm s v
  exact h.trans ⟨f4, f5, f6, by omega, fun k hk => f3 k (by omega)⟩
theorem Blk.map {w : World} {b r : Nat} {C : Array Value} {t : TypeId} {m : ByteArray → Option Value} (h : Blk w b C t) (hm : MapAt w r m) (s : ByteArray) (v : Value) (hne : b ≠ r) : Blk (setMap w r s v) b C t := by
  rw [Blk, (setMap_facts hm s v).2.2.1 b hne]; exact h
end Go.Proofs.YbulkeeoiDoor
