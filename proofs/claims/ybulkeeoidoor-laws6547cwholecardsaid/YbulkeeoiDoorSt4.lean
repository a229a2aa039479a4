import Derived.Test.YbulkeeoiDoorSt3
namespace Go.Proofs.YbulkeeoiDoor
open Go.RowKit Go.Sort
set_option linter.unusedVariables false

/-- What the map of changes holds of identity q, after j changes. -/
def Held (I : In) (C : Nat) (wr : World) (f3 : ByteArray → Option Value) (q : Nat) : Option Nat → Prop
  | none => f3 (aorS q) = none
  | some j' => ∃ bv, f3 (aorS q) = some bv ∧ wr.ownsRow (C + 1) 86 15 bv (I.n j') (rows (fun k => (I.Bb j' k).cells.toList) (I.n j'))

structure St4 (I : In) (N : Int) (w : World) (T D C j : Nat) (rv wv : Value) (f1 f2 f3 : ByteArray → Option Value) (wr : World) : Prop where
  s3 : St3 I N w T D (min I.L1 6) (min I.L2 6) rv wv f1 f2 wr
  hc : D + 3 ≤ C
  sz : C + 1 ≤ wr.heap.size
  m3 : MapAt wr C f3
  q3 : ∀ q, q < 6 → Held I C wr f3 q (lastc I.kc q j)

section
variable {I : In} {N : Int} {w : World} {T D C j : Nat} {rv wv : Value} {f1 f2 f3 : ByteArray → Option Value} {wr wr' : World}

theorem Held.kept {q : Nat} {o : Option Nat} (h : Held I C wr f3 q o) (hb : Below wr.heap.size wr wr') : Held I C wr' f3 q o := by
  cases o with
  | none => exact h
  | some j' =>
    obtain ⟨bv, h1, h2⟩ := h
    exact ⟨bv, h1, own_kept h2 hb⟩
theorem St4.kept (h : St4 I N w T D C j rv wv f1 f2 f3 wr) (hb : Below wr.heap.size wr wr') : St4 I N w T D C j rv wv f1 f2 f3 wr' :=
  { h with s3 := h.s3.kept hb, sz := Nat.le_trans h.sz hb.size, m3 := h.m3.kept hb, q3 := fun q hq => (h.q3 q hq).kept hb }
theorem St4.alloc (h : St4 I N w T D C j rv wv f1 f2 f3 wr) (o : Obj) : St4 I N w T D C j rv wv f1 f2 f3 (wr.alloc o) := h.kept ((Below.refl _ wr).alloc (Nat.le_refl _) o)

theorem own_map {m : ByteArray → Option Value} {base : Nat} {v : Value} {n : Nat} {xs : List Value} (h : wr.ownsRow base 86 15 v n xs) (hm : MapAt wr C m) (s : ByteArray) (u : Value) (hb : C < base) : (setMap wr C s u).ownsRow base 86 15 v n xs := by
  refine h.kept (setMap_grown hm s u) ?_
  cases hv : v.ownBlock with
  | none => exact Or.inl rfl
  | some b => exact Or.inr (fun e => by have := (h.lt b hv).1; injection e with e; omega)

theorem St4.put (h : St4 I N w T D C j rv wv f1 f2 f3 wr) (bv : Value) (ho : wr.ownsRow (C + 1) 86 15 bv (I.n j) (rows (fun k => (I.Bb j k).cells.toList) (I.n j))) :
    St4 I N w T D C (j + 1) rv wv f1 f2 (upd f3 (aorS (I.kc j)) bv) (setMap wr C (aorS (I.kc j)) bv) := by
  have hg := setMap_grown h.m3 (aorS (I.kc j)) bv
  refine { s3 := h.s3.turn hg h.hc, hc := h.hc, sz := Nat.le_trans h.sz hg.size, m3 := (setMap_facts h.m3 _ _).1, q3 := fun q hq => ?_ }
  rw [lastc]
  by_cases e : I.kc j % 6 = q
  · rw [if_pos e]
    refine ⟨bv, ?_, own_map ho h.m3 _ _ (by omega)⟩
    unfold upd
    rw [if_pos]
    rw [← aorS_mod (I.kc j), e]
  · rw [if_neg e]
    have hne : ¬ aorS q = aorS (I.kc j) := fun h' => by have := aorS_inj h'; omega
    have := h.q3 q hq
    cases hl : lastc I.kc q j with
    | none =>
      rw [hl] at this
      show upd f3 _ bv (aorS q) = none
      unfold upd
      rw [if_neg hne]
      exact this
    | some j' =>
      rw [hl] at this
      obtain ⟨b', h1, h2⟩ := this
      refine ⟨b', ?_, own_map h2 h.m3 _ _ (by omega)⟩
      unfold upd
      rw [if_neg hne]
      exact h1
end

theorem neq26 (w : World) (a : Option Addr) (n c n' c' : Nat) : (binOp .neq 26 (.slice a n c) (.slice none n' c')).run Ybad.prog w = .ok (.bool (!a.isNone)) w := by
  simp only [binOp]
  simp [Op.equal, Op.maxDepth, Lib.run_equalIn_slice_nil w 9999 26 75 a n c n' c' Ybad.underlying26]
theorem mkBd (b : Bd) (hb : b.ok) (w : World) : Calls Ybad.prog 7 #[.agg (rb (b.id : Int) b.ev b.uri b.ex)] w fun e w' => e = .returned (.agg b.cells) ∧ Below w.heap.size w w' := mk7 b.id b.ev b.uri b.ex w hb.2.1 hb.2.2
theorem contactBd (b : Bd) (hb : b.ok) (N : Int) (hN : -1125899906842624 < N ∧ N < 1125899906842624) (w : World) : Calls Ybad.prog 10 #[.agg (b.contact N), .agg (rb (b.id : Int) b.ev b.uri b.ex), .int .i64 N] w fun e w' => e = .returned (.bool true) ∧ Below w.heap.size w w' := contact10 b.id b.ev b.uri b.ex N w hb.1 hb.2.1 hb.2.2 hN
theorem sameBd (b : Bd) (hb : b.ok) (w : World) : Calls Ybad.prog 11 #[.agg b.cells, .agg (rb (b.id : Int) b.ev b.uri b.ex)] w fun e w' => e = .returned (.bool true) ∧ Below w.heap.size w w' := same11 b.id b.ev b.uri b.ex w hb.2.1 hb.2.2
end Go.Proofs.YbulkeeoiDoor
