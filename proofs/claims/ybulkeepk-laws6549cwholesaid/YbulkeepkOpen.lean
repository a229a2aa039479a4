import Derived.Test.YbulkeepkBase
import Derived.ProofKit
import Derived.OpenShut
import Derived.ShutString
import Derived.ChangeOld
import Derived.SliceStrings
import Derived.Deep.Slices
import Derived.SizedLaws
namespace Go.Proofs.Ybulkeepk
open Go.ChangeShapes Go.WideShapes Go.ChangeAt Go.RowKit
set_option linter.unusedVariables false

theorem cells3 : Yba.prog.cellsOf 3 = 1 := by kernel_rfl
theorem cells30 : Yba.prog.cellsOf 30 = 1 := by kernel_rfl
theorem cells32 : Yba.prog.cellsOf 32 = 3 := by kernel_rfl

theorem list3 {α : Type} {l : List α} (h : l.length = 3) : ∃ a b c, l = [a, b, c] := by
  match l, h with
  | [a, b, c], _ => exact ⟨a, b, c, rfl⟩
/-- The cells of a draw. -/
abbrev dc3 (x y z : Int) : Array Value := #[.int .u64 x, .int .i64 y, .int .i64 z]
theorem open32 {H : Type} {enc : TypeId × Value → H} {w : World} {base : Nat} {spare : Nat → Bool} {held : Bool} {fuel : Nat} {cs : List Value} {x : DataW H × List MemPlace} (h : DataW.trod enc Yba.prog w base spare held fuel 32 cs = some x) :
    ∃ p q d, cs = (dc3 p q d).toList ∧ 0 ≤ p ∧ p ≤ 18446744073709551615 := by
  obtain ⟨xs, n, _, rfl, hl, hlen, hf⟩ := DataW.trod_struct Yba.underlying32 h
  rw [cells32] at hl
  obtain ⟨c0, c1, c2, rfl⟩ := list3 hl
  obtain ⟨y0, y1, y2, rfl⟩ := list3 (show xs.length = 3 from hlen)
  have f0 : DataW.trod enc Yba.prog w base spare held n 30 [c0] = some y0 := by simpa [cells30] using hf 0 _ rfl
  have f1 : DataW.trod enc Yba.prog w base spare held n 3 [c1] = some y1 := by simpa [cells3] using hf 1 _ rfl
  have f2 : DataW.trod enc Yba.prog w base spare held n 3 [c2] = some y2 := by simpa [cells3] using hf 2 _ rfl
  obtain ⟨p, e0, _, hp⟩ := DataW.trod_int Yba.underlying30 f0
  obtain ⟨q, e1, _⟩ := DataW.trod_int Yba.underlying3 f1
  obtain ⟨d, e2, _⟩ := DataW.trod_int Yba.underlying3 f2
  simp at e0 e1 e2
  subst e0 e1 e2
  exact ⟨p, q, d, rfl, (bounds_u64 hp).1, (bounds_u64 hp).2⟩

theorem ix22 (b o len c i : Nat) (hi : i < len) (w : World) : Sem.run Yba.prog (Instr.indexAt 22 (.slice (some ⟨b, o, none⟩) len c) (.int .i64 (i : Int))) w = .ok (.pointer (some ⟨b, o + i, none⟩)) w := by
  have h1 : (0 : Int) ≤ (i : Int) ∧ (i : Int) < (len : Int) := by omega
  have hu : Yba.prog.elem 22 = 3 := by kernel_rfl
  rw [run_indexAt_slice w 22 ⟨b, o, none⟩ len c .i64 i (by rw [hu]; exact Yba.underlying22), if_pos h1, hu, Yba.sizeOf3]
  simp [Addr.add_mid]
theorem ix23 (b o len c i : Nat) (hi : i < len) (w : World) : Sem.run Yba.prog (Instr.indexAt 23 (.slice (some ⟨b, o, none⟩) len c) (.int .i64 (i : Int))) w = .ok (.pointer (some ⟨b, o + i * 3, none⟩)) w := by
  have h1 : (0 : Int) ≤ (i : Int) ∧ (i : Int) < (len : Int) := by omega
  have hu : Yba.prog.elem 23 = 32 := by kernel_rfl
  rw [run_indexAt_slice w 23 ⟨b, o, none⟩ len c .i64 i (by rw [hu]; exact Yba.underlying23), if_pos h1, hu, Yba.sizeOf32]
  simp [Addr.add_mid]

/-- What the walk is told of the opens. -/
def Opens (w : World) (a0 : Option Addr) (len0 cap0 : Nat) : Prop := ∃ (kb ko : Nat) (o : Nat → Int),
  (∀ i, i < len0 → ∀ wx, Sem.run Yba.prog (Instr.indexAt 22 (.slice a0 len0 cap0) (.int .i64 (i : Int))) wx = .ok (.pointer (some ⟨kb, ko + i, none⟩)) wx) ∧
  (∀ i, i < len0 → w.cell? ⟨kb, ko + i, none⟩ = some (.int .i64 (o i)))
/-- What the walk is told of the records. -/
def Recs (w : World) (a1 : Option Addr) (len1 cap1 : Nat) : Prop := ∃ (bb bo : Nat) (Im Ow Opn : Nat → Int),
  (∀ i, i < len1 → ∀ wx, Sem.run Yba.prog (Instr.indexAt 23 (.slice a1 len1 cap1) (.int .i64 (i : Int))) wx = .ok (.pointer (some ⟨bb, bo + i * 3, none⟩)) wx) ∧
  (∀ i, i < len1 → w.rangeAt bb (bo + i * 3) (dc3 (Im i) (Ow i) (Opn i)).toList ∧ 0 ≤ Im i ∧ Im i ≤ 18446744073709551615)

theorem len_of {H : Type} {enc : TypeId × Value → H} {W : World} {t e : TypeId} {a : Option Addr} {len cap : Nat} {d : DataW H} {p : List MemPlace} (ht : Yba.prog.underlying t = some (.slice e)) (h : DataW.Trod enc Yba.prog W 0 (fun _ => true) true t (.slice a len cap) d p) : len = 0 ∨ ∃ el sp, d = .slice el sp ∧ el.length = len := by
  obtain ⟨fuel, hf⟩ := h
  rcases Go.Deep.open_slice ht hf with ⟨hcs, _⟩ | ⟨x, l, c, m, n, D, Pl, hcs, _, hl, hm, hmm, hx, hel⟩
  · simp [Value.cells] at hcs
    exact .inl hcs.2.1
  · simp [Value.cells] at hcs
    obtain ⟨rfl, rfl, rfl⟩ := hcs
    obtain ⟨hd, _⟩ := Prod.mk.inj hx
    exact .inr ⟨_, _, hd, by simp⟩

theorem opens_of {H : Type} {enc : TypeId × Value → H} {W : World} {a0 : Option Addr} {len0 cap0 : Nat} {d : DataW H} {p : List MemPlace} (h : DataW.Trod enc Yba.prog W 0 (fun _ => true) true 22 (.slice a0 len0 cap0) d p) : Opens W a0 len0 cap0 := by
  obtain ⟨fuel, hf⟩ := h
  rcases open_ints Yba.underlying22 Yba.underlying3 cells3 hf with ⟨hcs, _⟩ | ⟨x, l, c, ss, hcs, _, hl, hm, hz, hx, hcell, hwz⟩
  · simp [Value.cells] at hcs
    obtain ⟨rfl, rfl, rfl⟩ := hcs
    exact ⟨0, 0, fun _ => 0, fun i hi => by omega, fun i hi => by omega⟩
  · simp [Value.cells] at hcs
    obtain ⟨rfl, rfl, rfl⟩ := hcs
    have hz' : ss.length = cap0 := by simpa using hz
    rcases Nat.eq_zero_or_pos len0 with h0 | hpos
    · subst h0
      exact ⟨0, 0, fun _ => 0, fun i hi => by omega, fun i hi => by omega⟩
    · obtain ⟨b, off, spot⟩ := x
      have hspot : spot = none := by simpa [Addr.add] using World.cell?_spot (hcell 0 (by omega))
      subst hspot
      refine ⟨b, off, fun i => ss.getD i 0, fun i hi wx => ix22 b off len0 cap0 i hi wx, fun i hi => ?_⟩
      have := hcell i (by omega)
      rwa [Addr.add_mid] at this

theorem recs_of {H : Type} {enc : TypeId × Value → H} {W : World} {a2 : Option Addr} {len2 cap2 : Nat} {d : DataW H} {p : List MemPlace} (h : DataW.Trod enc Yba.prog W 0 (fun _ => true) true 23 (.slice a2 len2 cap2) d p) : Recs W a2 len2 cap2 := by
  obtain ⟨fuel, hf⟩ := h
  rcases Go.Deep.open_slice Yba.underlying23 hf with ⟨hcs, _⟩ | ⟨x, l, c, m, n, D, Pl, hcs, _, hl, hm, hmm, hx, hel⟩
  · simp [Value.cells] at hcs
    obtain ⟨rfl, rfl, rfl⟩ := hcs
    exact ⟨0, 0, fun _ => 0, fun _ => 0, fun _ => 0, fun i hi => by omega, fun i hi => by omega⟩
  · simp [Value.cells] at hcs
    obtain ⟨rfl, rfl, rfl⟩ := hcs
    have hm' : m = cap2 := by simpa using hmm
    rw [cells32] at hel
    have each : ∀ i, i < len2 → ∃ t : Int × Int × Int, W.cells? 0 (x.add (i * 3)) 3 = some (dc3 t.1 t.2.1 t.2.2).toList ∧ 0 ≤ t.1 ∧ t.1 ≤ 18446744073709551615 := by
      intro i hi
      obtain ⟨cs', h1, h2⟩ := hel i (by omega)
      obtain ⟨p, q, d, rfl, b0, b1⟩ := open32 h2
      exact ⟨(p, q, d), h1, b0, b1⟩
    rcases Nat.eq_zero_or_pos len2 with h0 | hpos
    · subst h0
      exact ⟨0, 0, fun _ => 0, fun _ => 0, fun _ => 0, fun i hi => by omega, fun i hi => by omega⟩
    · obtain ⟨T, hT⟩ := Go.Deep.choose_lt each
      obtain ⟨b, off, spot⟩ := x
      have hspot : spot = none := by
        have h5 := (World.cells?_some (hT 0 hpos).1).2.2 0 (by omega)
        exact World.cell?_spot (a := ⟨b, off, spot⟩) (by simpa [Addr.add] using h5)
      subst hspot
      refine ⟨b, off, fun i => (T i).1, fun i => (T i).2.1, fun i => (T i).2.2, fun i hi wx => ix23 b off len2 cap2 i hi wx, fun i hi => ⟨?_, (hT i hi).2⟩⟩
      intro j v hv
      have hj : j < 3 := by have := (List.getElem?_eq_some_iff.1 hv).1; simpa using this
      have h5 := (World.cells?_some (hT i hi).1).2.2 j hj
      rw [Addr.add_mid, Addr.add_mid] at h5
      rw [h5, hv]
end Go.Proofs.Ybulkeepk
