import Derived.Test.YbulkeeoiDoorMem
namespace Go.Proofs.YbulkeeoiDoor
open Go.RowKit Go.Sort
set_option linter.unusedVariables false

abbrev uc (rv wv : Value) : Array Value := #[.string { data := #[112] }, .nilIface, rv, wv, .int .u64 0, .int .i64 0, .pointer none, .string { data := #[] }, .pointer none, .slice none 0 0]

theorem Blk.drew {w : World} {b : Nat} {C : Array Value} {t : TypeId} (h : Blk w b C t) : Blk w.drew b C t := h

/-- While the subscriber is filled. -/
structure St2 (I : In) (N : Int) (w : World) (T i1 i2 : Nat) (rv wv : Value) (wr : World) : Prop where
  bel : Below w.heap.size w wr
  tw : w.heap.size ≤ T
  sz : T + 2 ≤ wr.heap.size
  kT : Blk wr T (tc (tS N) (tN N)) 33
  kU : Blk wr (T + 1) (uc rv wv) 43
  o2 : wr.ownsRow (T + 2) 9 1 rv i1 (rows (fun k => [.string (aorS (I.ka k))]) i1)
  o3 : wr.ownsRow (T + 2) 9 1 wv i2 (rows (fun k => [.string (I.Wr k)]) i2)
  ap : rv.ownBlock = none ∨ rv.ownBlock ≠ wv.ownBlock

section
variable {I : In} {N : Int} {w : World} {T i1 i2 : Nat} {rv wv : Value} {wr wr' : World}

theorem St2.kept (h : St2 I N w T i1 i2 rv wv wr) (hb : Below wr.heap.size wr wr') : St2 I N w T i1 i2 rv wv wr' where
  bel := h.bel.trans (hb.mono h.bel.size)
  tw := h.tw
  sz := Nat.le_trans h.sz hb.size
  kT := h.kT.kept hb
  kU := h.kU.kept hb
  o2 := own_kept h.o2 hb
  o3 := own_kept h.o3 hb
  ap := h.ap
theorem St2.alloc (h : St2 I N w T i1 i2 rv wv wr) (o : Obj) : St2 I N w T i1 i2 rv wv (wr.alloc o) := h.kept ((Below.refl _ wr).alloc (Nat.le_refl _) o)
theorem St2.drew (h : St2 I N w T i1 i2 rv wv wr) : St2 I N w T i1 i2 rv wv wr.drew := h.kept (Below.refl _ wr).drew

theorem St2.app2 (h : St2 I N w T i1 i2 rv wv wr) {gg cap : Nat} (ho : wr'.ownsRow (T + 2) 9 1 (.slice (some ⟨gg, 0, none⟩) (i1 + 1) cap) (i1 + 1) (rows (fun k => [.string (aorS (I.ka k))]) i1 ++ [.string (aorS (I.ka i1))]))
    (hg : wr.grownBy wr' rv.ownBlock) (hat : rv.ownBlock = some gg ∨ gg = wr.heap.size) :
    Blk wr' (T + 1) (uc rv wv) 43 ∧ St2 I N w T (i1 + 1) i2 (.slice (some ⟨gg, 0, none⟩) (i1 + 1) cap) wv (wr'.setCell ⟨T + 1, 2, none⟩ (.slice (some ⟨gg, 0, none⟩) (i1 + 1) cap)) := by
  have hU := h.kU.grown hg (own_ne h.o2 (by omega))
  have htw := h.tw
  have hrow : ∀ j, rv.ownBlock = some j → w.heap.size ≤ j := fun j hj => by have := (h.o2.lt j hj).1; omega
  have hap : wv.ownBlock = none ∨ wv.ownBlock ≠ rv.ownBlock := by
    rcases h.ap with h' | h'
    · cases hw : wv.ownBlock with
      | none => exact Or.inl rfl
      | some b => exact Or.inr (by rw [h']; simp)
    · exact Or.inr (Ne.symm h')
  refine ⟨hU, ?_⟩
  exact {
    bel := (h.bel.grown hg h.bel.size hrow).setCell (by show w.heap.size ≤ T + 1; omega) _
    tw := h.tw
    sz := by have := hg.size; have := h.sz; show T + 2 ≤ (wr'.setCell _ _).heap.size; simp [World.setCell]; omega
    kT := (h.kT.grown hg (own_ne h.o2 (by omega))).other _ _ _ (by omega)
    kU := hU.set 2 _
    o2 := own_set ho (by show T + 1 < T + 2; omega) _
    o3 := own_set (h.o3.kept hg hap) (by show T + 1 < T + 2; omega) _
    ap := by
      right
      show some gg ≠ wv.ownBlock
      rcases hat with h' | h'
      · rw [← h']
        rcases hap with h2 | h2
        · rw [h2, h']; simp
        · exact Ne.symm h2
      · intro e
        have := (h.o3.lt gg e.symm).2
        omega }

theorem St2.app3 (h : St2 I N w T i1 i2 rv wv wr) {gg cap : Nat} (ho : wr'.ownsRow (T + 2) 9 1 (.slice (some ⟨gg, 0, none⟩) (i2 + 1) cap) (i2 + 1) (rows (fun k => [.string (I.Wr k)]) i2 ++ [.string (I.Wr i2)]))
    (hg : wr.grownBy wr' wv.ownBlock) (hat : wv.ownBlock = some gg ∨ gg = wr.heap.size) :
    Blk wr' (T + 1) (uc rv wv) 43 ∧ St2 I N w T i1 (i2 + 1) rv (.slice (some ⟨gg, 0, none⟩) (i2 + 1) cap) (wr'.setCell ⟨T + 1, 3, none⟩ (.slice (some ⟨gg, 0, none⟩) (i2 + 1) cap)) := by
  have hU := h.kU.grown hg (own_ne h.o3 (by omega))
  have htw := h.tw
  have hrow : ∀ j, wv.ownBlock = some j → w.heap.size ≤ j := fun j hj => by have := (h.o3.lt j hj).1; omega
  refine ⟨hU, ?_⟩
  exact {
    bel := (h.bel.grown hg h.bel.size hrow).setCell (by show w.heap.size ≤ T + 1; omega) _
    tw := h.tw
    sz := by have := hg.size; have := h.sz; show T + 2 ≤ (wr'.setCell _ _).heap.size; simp [World.setCell]; omega
    kT := (h.kT.grown hg (own_ne h.o3 (by omega))).other _ _ _ (by omega)
    kU := hU.set 3 _
    o2 := own_set (h.o2.kept hg h.ap) (by show T + 1 < T + 2; omega) _
    o3 := own_set ho (by show T + 1 < T + 2; omega) _
    ap := by
      show rv.ownBlock = none ∨ rv.ownBlock ≠ some gg
      rcases hat with h' | h'
      · rw [← h']; exact h.ap
      · cases hr : rv.ownBlock with
        | none => exact Or.inl rfl
        | some b =>
          refine Or.inr (fun e => ?_)
          have := (h.o2.lt b hr).2
          injection e with e
          omega }
end
end Go.Proofs.YbulkeeoiDoor
