import Derived.Test.YbulkeeoiDoorPart
namespace Go.Proofs.YbulkeeoiDoor
open Go.RowKit Go.Sort
set_option linter.unusedVariables false

/-- What comes in, as plain data. -/
structure In where
  L0 : Nat
  L1 : Nat
  L2 : Nat
  L3 : Nat
  ka : Nat → Nat
  Wr : Nat → ByteArray
  pb : Nat → Nat
  bd : Nat → Nat
  kc : Nat → Nat
  n : Nat → Nat
  Bb : Nat → Nat → Bd
/-- Where it lies. -/
structure Pl where
  a0 : Option Addr
  c0 : Nat
  g0 : Nat
  o0 : Nat
  a1 : Option Addr
  c1 : Nat
  g1 : Nat
  o1 : Nat
  a2 : Option Addr
  c2 : Nat
  g2 : Nat
  o2 : Nat
  a3 : Option Addr
  c3 : Nat
  g3 : Nat
  o3 : Nat
  ab : Nat → Option Addr
  cp : Nat → Nat
  gb : Nat → Nat
  ob : Nat → Nat

structure Mem (I : In) (p : Pl) (w : World) : Prop where
  x0 : Idx 22 (.slice p.a0 I.L0 p.c0) I.L0 p.g0 (fun k => p.o0 + k * 2)
  t0 : At w I.L0 p.g0 (fun k => p.o0 + k * 2) (fun i => [.int .u8 (I.ka i : Int), .string (I.Wr i)])
  k0 : ∀ i, i < I.L0 → I.ka i < 256
  x1 : Idx 23 (.slice p.a1 I.L1 p.c1) I.L1 p.g1 (fun k => p.o1 + k)
  t1 : At w I.L1 p.g1 (fun k => p.o1 + k) (fun i => [.int .u64 (I.pb i : Int)])
  k1 : ∀ i, i < I.L1 → I.pb i < 18446744073709551616
  x2 : Idx 24 (.slice p.a2 I.L2 p.c2) I.L2 p.g2 (fun k => p.o2 + k)
  t2 : At w I.L2 p.g2 (fun k => p.o2 + k) (fun i => [.int .u8 (I.bd i : Int)])
  k2 : ∀ i, i < I.L2 → I.bd i < 256
  x3 : Idx 25 (.slice p.a3 I.L3 p.c3) I.L3 p.g3 (fun k => p.o3 + k * 2)
  t3 : At w I.L3 p.g3 (fun k => p.o3 + k * 2) (fun j => [.int .u8 (I.kc j : Int), .slice (p.ab j) (I.n j) (p.cp j)])
  k3 : ∀ j, j < I.L3 → I.kc j < 256
  xb : ∀ j, j < I.L3 → Idx 26 (.slice (p.ab j) (I.n j) (p.cp j)) (I.n j) (p.gb j) (fun k => p.ob j + k * 4)
  tb : ∀ j, j < I.L3 → At w (I.n j) (p.gb j) (fun k => p.ob j + k * 4) (fun k => (rb ((I.Bb j k).id : Int) (I.Bb j k).ev (I.Bb j k).uri (I.Bb j k).ex).toList)
  kb : ∀ j, j < I.L3 → ∀ k, k < I.n j → (I.Bb j k).ok
  nb : ∀ j, j < I.L3 → p.ab j = none → I.n j = 0
  sz : ∀ j, j < I.L3 → I.n j ≤ 4398046511104
  tab : Lib.TabIs Ybad.prog w Ybad.powName .u64 Lib.pow10Tab

theorem Mem.kept {I : In} {p : Pl} {w w' : World} (h : Mem I p w) (hb : Below w.heap.size w w') : Mem I p w' :=
  { h with t0 := h.t0.kept hb, t1 := h.t1.kept hb, t2 := h.t2.kept hb, t3 := h.t3.kept hb, tb := fun j hj => (h.tb j hj).kept hb, tab := tab_below h.tab hb }

/-- How many bindings the first j changes bear. -/
def tot (n : Nat → Nat) : Nat → Nat
  | 0 => 0
  | j + 1 => tot n j + n j
theorem tot_le {n : Nat → Nat} {L : Nat} (h : ∀ j, j < L → n j ≤ 4398046511104) : ∀ j, j ≤ L → tot n j ≤ j * 4398046511104
  | 0, _ => by simp [tot]
  | j + 1, hj => by
    have h1 := tot_le h j (by omega)
    have h2 := h j (by omega)
    rw [tot, Nat.succ_mul]
    omega
theorem le_tot (n : Nat → Nat) : ∀ L j, j < L → n j ≤ tot n L
  | 0, j, h => by omega
  | L + 1, j, h => by
    rw [tot]
    by_cases hj : j = L
    · subst hj; omega
    · have := le_tot n L j (by omega); omega

/-- The last change of identity q among the first j. -/
def lastc (kc : Nat → Nat) (q : Nat) : Nat → Option Nat
  | 0 => none
  | j + 1 => if kc j % 6 = q then some j else lastc kc q j
def lastI (kc : Nat → Nat) (q j : Nat) : Int := match lastc kc q j with
  | none => -1
  | some j' => (j' : Int)
theorem lastc_lt {kc : Nat → Nat} {q : Nat} : ∀ {j j' : Nat}, lastc kc q j = some j' → j' < j ∧ kc j' % 6 = q
  | 0, j', h => by cases h
  | j + 1, j', h => by
    unfold lastc at h
    split at h
    · injection h with h; subst h; exact ⟨by omega, by assumption⟩
    · have := lastc_lt h; exact ⟨by omega, this.2⟩
theorem lastI_step (kc : Nat → Nat) (q j : Nat) : lastI kc q (j + 1) = if kc j % 6 = q then (j : Int) else lastI kc q j := by
  unfold lastI
  rw [lastc]
  by_cases h : kc j % 6 = q
  · rw [if_pos h, if_pos h]
  · rw [if_neg h, if_neg h]
end Go.Proofs.YbulkeeoiDoor
