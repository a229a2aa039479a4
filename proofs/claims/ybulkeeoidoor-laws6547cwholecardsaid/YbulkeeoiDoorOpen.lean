import Derived.Test.YbulkeeoiDoorMem
import Derived.ProofKit
import Derived.OpenShut
import Derived.ShutString
import Derived.ChangeOld
import Derived.SliceStrings
import Derived.Deep.Slices
import Derived.SizedLaws
namespace Go.Proofs.YbulkeeoiDoor
open Go.ChangeShapes Go.WideShapes Go.ChangeAt Go.RowKit
set_option linter.unusedVariables false

theorem cells5 : Ybad.prog.cellsOf 5 = 1 := by kernel_rfl
theorem cells9 : Ybad.prog.cellsOf 9 = 1 := by kernel_rfl
theorem cells30 : Ybad.prog.cellsOf 30 = 1 := by kernel_rfl
theorem cells26 : Ybad.prog.cellsOf 26 = 1 := by kernel_rfl
theorem cells73 : Ybad.prog.cellsOf 73 = 1 := by kernel_rfl
theorem cells2 : Ybad.prog.cellsOf 2 = 1 := by kernel_rfl
theorem cells45 : Ybad.prog.cellsOf 45 = 2 := by kernel_rfl
theorem cells28 : Ybad.prog.cellsOf 28 = 2 := by kernel_rfl
theorem cells75 : Ybad.prog.cellsOf 75 = 4 := by kernel_rfl

theorem list2 {α : Type} {l : List α} (h : l.length = 2) : ∃ a b, l = [a, b] := by
  match l, h with
  | [a, b], _ => exact ⟨a, b, rfl⟩
theorem list4 {α : Type} {l : List α} (h : l.length = 4) : ∃ a b c d, l = [a, b, c, d] := by
  match l, h with
  | [a, b, c, d], _ => exact ⟨a, b, c, d, rfl⟩

theorem wf_u8 {a : Int} (h : (Lit.int .u8 a).wf = true) : ∃ n : Nat, a = (n : Int) ∧ n < 256 := by
  have h' : IntKind.min .u8 ≤ a ∧ a ≤ IntKind.max .u8 := by simpa [Lit.wf] using h
  have e1 : IntKind.min .u8 = 0 := by decide
  have e2 : IntKind.max .u8 = 255 := by decide
  rw [e1, e2] at h'
  exact ⟨a.toNat, by omega, by omega⟩
theorem wf_u64 {a : Int} (h : (Lit.int .u64 a).wf = true) : ∃ n : Nat, a = (n : Int) ∧ n < 18446744073709551616 := by
  have h' : IntKind.min .u64 ≤ a ∧ a ≤ IntKind.max .u64 := by simpa [Lit.wf] using h
  have e1 : IntKind.min .u64 = 0 := by decide
  have e2 : IntKind.max .u64 = 18446744073709551615 := by decide
  rw [e1, e2] at h'
  exact ⟨a.toNat, by omega, by omega⟩
theorem wf_i8 {a : Int} (h : (Lit.int .i8 a).wf = true) : -128 ≤ a ∧ a ≤ 127 := by
  have h' : IntKind.min .i8 ≤ a ∧ a ≤ IntKind.max .i8 := by simpa [Lit.wf] using h
  have e1 : IntKind.min .i8 = -128 := by decide
  have e2 : IntKind.max .i8 = 127 := by decide
  rw [e1, e2] at h'
  omega
theorem wf_i64 {a : Int} (h : (Lit.int .i64 a).wf = true) : -9223372036854775808 ≤ a ∧ a ≤ 9223372036854775807 := by
  have h' : IntKind.min .i64 ≤ a ∧ a ≤ IntKind.max .i64 := by simpa [Lit.wf] using h
  have e1 : IntKind.min .i64 = -9223372036854775808 := by decide
  have e2 : IntKind.max .i64 = 9223372036854775807 := by decide
  rw [e1, e2] at h'
  omega

section
variable {H : Type} {enc : TypeId × Value → H} {W : World}

theorem slice_of {T e : TypeId} {size : Nat} (ht : Ybad.prog.underlying T = some (.slice e)) (hc : Ybad.prog.cellsOf e = size) (hs : ∀ w, Sem.run Ybad.prog (sizeOf e) w = .ok size w) (hpos : 0 < size) {fuel : Nat} {a : Option Addr} {len cap : Nat} {x : DataW H × List MemPlace}
    (h : DataW.trod enc Ybad.prog W 0 (fun _ => true) true fuel T [.slice a len cap] = some x) :
    (a = none → len = 0) ∧ ∃ (g o n : Nat) (D : Nat → DataW H) (cs : Nat → List Value), Idx T (.slice a len cap) len g (fun k => o + k * size) ∧
      (∀ k, k < len → (cs k).length = size ∧ (∃ Pk, DataW.trod enc Ybad.prog W 0 (fun _ => true) true n e (cs k) = some (D k, Pk)) ∧ ∀ t u, (cs k)[t]? = some u → W.cell? ⟨g, o + k * size + t, none⟩ = some u) ∧ (len ≠ 0 → ∃ sp, x.1 = .slice ((List.range len).map D) sp) := by
  rcases Go.Deep.open_slice ht h with ⟨hcs, _⟩ | ⟨ad, l, c, m, n, D, Pl, hcs, _, hl, hm, hmm, hx, hel⟩
  · simp at hcs
    obtain ⟨rfl, rfl, rfl⟩ := hcs
    exact ⟨fun _ => rfl, 0, 0, 0, fun _ => .nil, fun _ => [], fun k hk => by omega, fun k hk => by omega, fun h => absurd rfl h⟩
  · simp at hcs
    obtain ⟨rfl, rfl, rfl⟩ := hcs
    refine ⟨(fun h => by cases h), ?_⟩
    have hm' : m = cap := by simpa using hmm
    rw [hc] at hel
    rcases Nat.eq_zero_or_pos len with h0 | hlen
    · subst h0
      exact ⟨0, 0, 0, fun _ => .nil, fun _ => [], fun k hk => by omega, fun k hk => by omega, fun h => absurd rfl h⟩
    · obtain ⟨cs, hT⟩ := Go.Deep.choose_lt (n := len) (fun i hi => hel i (by omega))
      obtain ⟨g, o, spot⟩ := ad
      have hspot : spot = none := by
        have h5 := (World.cells?_some (hT 0 hlen).1).2.2 0 hpos
        have hlen2 := (World.cells?_some (hT 0 hlen).1).2.1
        obtain ⟨v, hv⟩ : ∃ v, (cs 0)[0]? = some v := ⟨(cs 0)[0], List.getElem?_eq_getElem (by omega)⟩
        rw [hv] at h5
        exact World.cell?_spot (a := ⟨g, o, spot⟩) (by simpa [Addr.add] using h5)
      subst hspot
      refine ⟨g, o, n, D, cs, ?_, fun k hk => ⟨(World.cells?_some (hT k hk).1).2.1, ⟨_, (hT k hk).2⟩, fun t u hu => ?_⟩, fun _ => ⟨_, by rw [hx]⟩⟩
      · intro k hk wx
        have h1 : (0 : Int) ≤ (k : Int) ∧ (k : Int) < (len : Int) := by omega
        have hu : Ybad.prog.elem T = e := by simp [Program.elem, ht]
        rw [run_indexAt_slice wx T ⟨g, o, none⟩ len cap .i64 k (by rw [hu]; exact ht), if_pos h1, hu, hs]
        simp [Addr.add_mid]
      · have hl2 := (World.cells?_some (hT k hk).1).2.1
        have h5 := (World.cells?_some (hT k hk).1).2.2 t (by have := (List.getElem?_eq_some_iff.1 hu).1; omega)
        rw [Addr.add_mid, Addr.add_mid, hu] at h5
        exact h5
end
end Go.Proofs.YbulkeeoiDoor
