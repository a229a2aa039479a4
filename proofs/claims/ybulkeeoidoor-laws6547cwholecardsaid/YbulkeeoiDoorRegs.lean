import Derived.Test.YbulkeeoiDoorReg
namespace Go.Proofs.YbulkeeoiDoor
open Go.RowKit Go.Sort
set_option linter.unusedVariables false

/-- What changed of one identity: its bindings, and the slice that holds them. -/
structure Chg where
  n : Nat
  B : Nat → Bd
  bv : Value
def regId (p : Nat) : ByteArray := { data := #[114] } ++ num p

/-- The registrations of the first i identities, as they lie in the document's row. -/
def RegsOk (G : Nat → Option Chg) (Wr : Nat → ByteArray) (Pd : Nat → Nat) (St : Nat → Int) (N : Int) (base : Nat) (w : World) (d : Option Nat) : Nat → Nat → List Value → Prop
  | 0, p, xs => p = 0 ∧ xs = []
  | i + 1, p, xs => match G i with
    | none => RegsOk G Wr Pd St N base w d i p xs
    | some c => ∃ p' xs' cv, p = p' + 1 ∧ xs = xs' ++ (rc4 (Wr i) (regId (Pd i)) (St i) cv).toList ∧ RegsOk G Wr Pd St N base w d i p' xs' ∧ w.ownsRow base 102 5 cv c.n (rows (fun k => ((c.B k).contact N).toList) c.n) ∧ (c.n = 0 → cv = .slice none 0 0) ∧ (cv.ownBlock = none ∨ cv.ownBlock ≠ d)

def cnt (G : Nat → Option Chg) : Nat → Nat
  | 0 => 0
  | i + 1 => match G i with
    | none => cnt G i
    | some _ => cnt G i + 1

section
variable {G : Nat → Option Chg} {Wr : Nat → ByteArray} {Pd : Nat → Nat} {St : Nat → Int} {N : Int} {base : Nat}

theorem RegsOk.turn {w w' : World} {d d' : Option Nat} (ho : ∀ cv n xs, w.ownsRow base 102 5 cv n xs → (cv.ownBlock = none ∨ cv.ownBlock ≠ d) → w'.ownsRow base 102 5 cv n xs ∧ (cv.ownBlock = none ∨ cv.ownBlock ≠ d')) :
    ∀ (i p : Nat) (xs : List Value), RegsOk G Wr Pd St N base w d i p xs → RegsOk G Wr Pd St N base w' d' i p xs
  | 0, p, xs, h => h
  | i + 1, p, xs, h => by
    cases hG : G i with
    | none =>
      simp only [RegsOk, hG] at h ⊢
      exact RegsOk.turn ho i p xs h
    | some c =>
      simp only [RegsOk, hG] at h ⊢
      obtain ⟨p', xs', cv, h1, h2, h3, h4, h5, h6⟩ := h
      obtain ⟨h7, h8⟩ := ho cv _ _ h4 h6
      exact ⟨p', xs', cv, h1, h2, RegsOk.turn ho i p' xs' h3, h7, h5, h8⟩

theorem RegsOk.kept {w w' : World} {d : Option Nat} {i p : Nat} {xs : List Value} (h : RegsOk G Wr Pd St N base w d i p xs) (hb : Below w.heap.size w w') : RegsOk G Wr Pd St N base w' d i p xs :=
  RegsOk.turn (fun cv n xs ho hd => ⟨own_kept ho hb, hd⟩) i p xs h
theorem RegsOk.grown {w w' : World} {d : Option Nat} {i p : Nat} {xs : List Value} (h : RegsOk G Wr Pd St N base w d i p xs) (hg : w.grownBy w' d) : RegsOk G Wr Pd St N base w' d i p xs :=
  RegsOk.turn (fun cv n xs ho hd => ⟨ho.kept hg hd, hd⟩) i p xs h
theorem RegsOk.set {w : World} {d : Option Nat} {i p : Nat} {xs : List Value} (h : RegsOk G Wr Pd St N base w d i p xs) {a : Addr} (ha : a.block < base) (u : Value) : RegsOk G Wr Pd St N base (w.setCell a u) d i p xs :=
  RegsOk.turn (fun cv n xs ho hd => ⟨own_set ho ha u, hd⟩) i p xs h
/-- The row has moved to another block, made only now. -/
theorem RegsOk.moved {w : World} {d : Option Nat} {g : Nat} {i p : Nat} {xs : List Value} (h : RegsOk G Wr Pd St N base w d i p xs) (hg : d = some g ∨ w.heap.size ≤ g) : RegsOk G Wr Pd St N base w (some g) i p xs :=
  RegsOk.turn (fun cv n xs ho hd => ⟨ho, by
    rcases hg with h' | h'
    · rw [← h']; exact hd
    · cases hc : cv.ownBlock with
      | none => exact Or.inl rfl
      | some b => exact Or.inr (fun e => by have := (ho.lt b hc).2; injection e with e; omega)⟩) i p xs h

theorem RegsOk.count {w : World} {d : Option Nat} : ∀ (i p : Nat) (xs : List Value), RegsOk G Wr Pd St N base w d i p xs → p = cnt G i ∧ xs.length = p * 4
  | 0, p, xs, h => by obtain ⟨rfl, rfl⟩ := h; exact ⟨rfl, rfl⟩
  | i + 1, p, xs, h => by
    cases hG : G i with
    | none =>
      simp only [RegsOk, hG, cnt] at h ⊢
      exact RegsOk.count i p xs h
    | some c =>
      simp only [RegsOk, hG, cnt] at h ⊢
      obtain ⟨p', xs', cv, rfl, rfl, h3, h4, h5, h6⟩ := h
      obtain ⟨e1, e2⟩ := RegsOk.count i p' xs' h3
      exact ⟨by omega, by rw [List.length_append, e2]; simp; omega⟩

theorem RegsOk.at {w : World} {d : Option Nat} {j : Nat} {c : Chg} (hj : G j = some c) : ∀ (i p : Nat) (xs : List Value), RegsOk G Wr Pd St N base w d i p xs → j < i →
    ∃ cv, (∀ t u, (rc4 (Wr j) (regId (Pd j)) (St j) cv).toList[t]? = some u → xs[cnt G j * 4 + t]? = some u) ∧ cnt G j < p ∧ w.ownsRow base 102 5 cv c.n (rows (fun k => ((c.B k).contact N).toList) c.n) ∧ (c.n = 0 → cv = .slice none 0 0)
  | 0, p, xs, h, hlt => by omega
  | i + 1, p, xs, h, hlt => by
    by_cases hij : j = i
    · subst hij
      simp only [RegsOk, hj] at h
      obtain ⟨p', xs', cv, rfl, rfl, h3, h4, h5, h6⟩ := h
      obtain ⟨e1, e2⟩ := RegsOk.count _ _ _ h3
      refine ⟨cv, fun t u hu => ?_, by omega, h4, h5⟩
      rw [List.getElem?_append_right (by omega), e2, ← e1, Nat.add_sub_cancel_left]
      exact hu
    · cases hG : G i with
      | none =>
        simp only [RegsOk, hG] at h
        exact RegsOk.at hj i p xs h (by omega)
      | some c' =>
        simp only [RegsOk, hG] at h
        obtain ⟨p', xs', cv, rfl, rfl, h3, h4, h5, h6⟩ := h
        obtain ⟨cv', g1, g2, g3, g4⟩ := RegsOk.at hj i p' xs' h3 (by omega)
        refine ⟨cv', fun t u hu => ?_, by omega, g3, g4⟩
        have := g1 t u hu
        rw [List.getElem?_append_left (List.getElem?_eq_some_iff.1 this).1]
        exact this
theorem cnt_le (G : Nat → Option Chg) : ∀ i, cnt G i ≤ i
  | 0 => Nat.le_refl _
  | i + 1 => by
    have := cnt_le G i
    cases hG : G i <;> simp only [cnt, hG] <;> omega
end
end Go.Proofs.YbulkeeoiDoor
