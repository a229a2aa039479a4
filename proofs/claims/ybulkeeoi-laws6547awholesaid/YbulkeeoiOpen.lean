import Derived.Test.YbulkeeoiState
import Derived.ProofKit
import Derived.OpenShut
import Derived.ShutString
import Derived.ChangeOld
import Derived.SliceStrings
import Derived.Deep.Slices
import Derived.SizedLaws
namespace Go.Proofs.Ybulkeeoi
open Go.ChangeShapes Go.WideShapes Go.ChangeAt Go.RowKit
set_option linter.unusedVariables false

theorem cells9 : Yba.prog.cellsOf 9 = 1 := by kernel_rfl
theorem cells30 : Yba.prog.cellsOf 30 = 1 := by kernel_rfl
theorem cells25 : Yba.prog.cellsOf 25 = 1 := by kernel_rfl
theorem cells44 : Yba.prog.cellsOf 44 = 5 := by kernel_rfl

theorem list5 {α : Type} {l : List α} (h : l.length = 5) : ∃ a b c d e, l = [a, b, c, d, e] := by
  match l, h with
  | [a, b, c, d, e], _ => exact ⟨a, b, c, d, e, rfl⟩
theorem open44 {H : Type} {enc : TypeId × Value → H} {w : World} {base : Nat} {spare : Nat → Bool} {held : Bool} {fuel : Nat} {cs : List Value} {x : DataW H × List MemPlace} (h : DataW.trod enc Yba.prog w base spare held fuel 44 cs = some x) :
    ∃ u c p q d, cs = (rc u c p q d).toList := by
  obtain ⟨xs, n, _, rfl, hl, hlen, hf⟩ := DataW.trod_struct Yba.underlying44 h
  rw [cells44] at hl
  obtain ⟨c0, c1, c2, c3, c4, rfl⟩ := list5 hl
  obtain ⟨y0, y1, y2, y3, y4, rfl⟩ := list5 (show xs.length = 5 from hlen)
  have f0 : DataW.trod enc Yba.prog w base spare held n 9 [c0] = some y0 := by simpa [cells9] using hf 0 _ rfl
  have f1 : DataW.trod enc Yba.prog w base spare held n 9 [c1] = some y1 := by simpa [cells9] using hf 1 _ rfl
  have f2 : DataW.trod enc Yba.prog w base spare held n 9 [c2] = some y2 := by simpa [cells9] using hf 2 _ rfl
  have f3 : DataW.trod enc Yba.prog w base spare held n 30 [c3] = some y3 := by simpa [cells30] using hf 3 _ rfl
  have f4 : DataW.trod enc Yba.prog w base spare held n 25 [c4] = some y4 := by simpa [cells25] using hf 4 _ rfl
  obtain ⟨u, e0, _⟩ := DataW.trod_string Yba.underlying9 f0
  obtain ⟨c, e1, _⟩ := DataW.trod_string Yba.underlying9 f1
  obtain ⟨p, e2, _⟩ := DataW.trod_string Yba.underlying9 f2
  obtain ⟨q, e3, _⟩ := DataW.trod_int Yba.underlying30 f3
  obtain ⟨d, e4, _⟩ := DataW.trod_int Yba.underlying25 f4
  simp at e0 e1 e2 e3 e4
  subst e0 e1 e2 e3 e4
  exact ⟨u, c, p, q, d, rfl⟩

theorem ix22 (b o len c i : Nat) (hi : i < len) (w : World) : Sem.run Yba.prog (Instr.indexAt 22 (.slice (some ⟨b, o, none⟩) len c) (.int .i64 (i : Int))) w = .ok (.pointer (some ⟨b, o + i, none⟩)) w := by
  have h1 : (0 : Int) ≤ (i : Int) ∧ (i : Int) < (len : Int) := by omega
  have hu : Yba.prog.elem 22 = 9 := by kernel_rfl
  rw [run_indexAt_slice w 22 ⟨b, o, none⟩ len c .i64 i (by rw [hu]; exact Yba.underlying22), if_pos h1, hu, Yba.sizeOf9]
  simp [Addr.add_mid]
theorem ix23 (b o len c i : Nat) (hi : i < len) (w : World) : Sem.run Yba.prog (Instr.indexAt 23 (.slice (some ⟨b, o, none⟩) len c) (.int .i64 (i : Int))) w = .ok (.pointer (some ⟨b, o + i * 5, none⟩)) w := by
  have h1 : (0 : Int) ≤ (i : Int) ∧ (i : Int) < (len : Int) := by omega
  have hu : Yba.prog.elem 23 = 44 := by kernel_rfl
  rw [run_indexAt_slice w 23 ⟨b, o, none⟩ len c .i64 i (by rw [hu]; exact Yba.underlying23), if_pos h1, hu, Yba.sizeOf44]
  simp [Addr.add_mid]

/-- What the walk is told of the keys. -/
def Keys (w : World) (a1 : Option Addr) (len1 cap1 : Nat) : Prop := ∃ (kb ko : Nat) (ss : Nat → ByteArray),
  (∀ i, i < len1 → ∀ wx, Sem.run Yba.prog (Instr.indexAt 22 (.slice a1 len1 cap1) (.int .i64 (i : Int))) wx = .ok (.pointer (some ⟨kb, ko + i, none⟩)) wx) ∧
  (∀ i, i < len1 → w.cell? ⟨kb, ko + i, none⟩ = some (.string (ss i)) ∧ (ss i).size ≤ maxLen)
/-- What the walk is told of the records. -/
def Recs (w : World) (a2 : Option Addr) (len2 cap2 : Nat) : Prop := ∃ (bb bo : Nat) (U C Pr : Nat → ByteArray) (Q Id : Nat → Int),
  (∀ i, i < len2 → ∀ wx, Sem.run Yba.prog (Instr.indexAt 23 (.slice a2 len2 cap2) (.int .i64 (i : Int))) wx = .ok (.pointer (some ⟨bb, bo + i * 5, none⟩)) wx) ∧
  (∀ i, i < len2 → w.rangeAt bb (bo + i * 5) (rc (U i) (C i) (Pr i) (Q i) (Id i)).toList)

theorem keys_of {H : Type} {enc : TypeId × Value → H} {W : World} {a1 : Option Addr} {len1 cap1 : Nat} {d : DataW H} {p : List MemPlace} (h : DataW.Trod enc Yba.prog W 0 (fun _ => true) true 22 (.slice a1 len1 cap1) d p) : Keys W a1 len1 cap1 := by
  obtain ⟨fuel, hf⟩ := h
  rcases open_strings Yba.underlying22 Yba.underlying9 cells9 hf with ⟨hcs, _⟩ | ⟨x, l, c, ss, hcs, _, hl, hm, hz, hx, hcell, hwz⟩
  · simp [Value.cells] at hcs
    obtain ⟨rfl, rfl, rfl⟩ := hcs
    exact ⟨0, 0, fun _ => ByteArray.empty, fun i hi => by omega, fun i hi => by omega⟩
  · simp [Value.cells] at hcs
    obtain ⟨rfl, rfl, rfl⟩ := hcs
    have hz' : ss.length = cap1 := by simpa using hz
    rcases Nat.eq_zero_or_pos len1 with h0 | hpos
    · subst h0
      exact ⟨0, 0, fun _ => ByteArray.empty, fun i hi => by omega, fun i hi => by omega⟩
    · obtain ⟨b, off, spot⟩ := x
      have hspot : spot = none := by simpa [Addr.add] using World.cell?_spot (hcell 0 (by omega))
      subst hspot
      refine ⟨b, off, fun i => ss.getD i ByteArray.empty, fun i hi wx => ix22 b off len1 cap1 i hi wx, fun i hi => ⟨?_, ?_⟩⟩
      · have := hcell i (by omega)
        rwa [Addr.add_mid] at this
      · refine hwz _ ?_
        show ss.getD i ByteArray.empty ∈ ss
        rw [List.getD_eq_getElem?_getD, List.getElem?_eq_getElem (show i < ss.length by omega)]
        exact List.getElem_mem _

theorem recs_of {H : Type} {enc : TypeId × Value → H} {W : World} {a2 : Option Addr} {len2 cap2 : Nat} {d : DataW H} {p : List MemPlace} (h : DataW.Trod enc Yba.prog W 0 (fun _ => true) true 23 (.slice a2 len2 cap2) d p) : Recs W a2 len2 cap2 := by
  obtain ⟨fuel, hf⟩ := h
  rcases Go.Deep.open_slice Yba.underlying23 hf with ⟨hcs, _⟩ | ⟨x, l, c, m, n, D, Pl, hcs, _, hl, hm, hmm, hx, hel⟩
  · simp [Value.cells] at hcs
    obtain ⟨rfl, rfl, rfl⟩ := hcs
    exact ⟨0, 0, fun _ => ByteArray.empty, fun _ => ByteArray.empty, fun _ => ByteArray.empty, fun _ => 0, fun _ => 0, fun i hi => by omega, fun i hi => by omega⟩
  · simp [Value.cells] at hcs
    obtain ⟨rfl, rfl, rfl⟩ := hcs
    have hm' : m = cap2 := by simpa using hmm
    rw [cells44] at hel
    have each : ∀ i, i < len2 → ∃ t : ByteArray × ByteArray × ByteArray × Int × Int, W.cells? 0 (x.add (i * 5)) 5 = some (rc t.1 t.2.1 t.2.2.1 t.2.2.2.1 t.2.2.2.2).toList := by
      intro i hi
      obtain ⟨cs', h1, h2⟩ := hel i (by omega)
      obtain ⟨u, c, p, q, d, rfl⟩ := open44 h2
      exact ⟨(u, c, p, q, d), h1⟩
    rcases Nat.eq_zero_or_pos len2 with h0 | hpos
    · subst h0
      exact ⟨0, 0, fun _ => ByteArray.empty, fun _ => ByteArray.empty, fun _ => ByteArray.empty, fun _ => 0, fun _ => 0, fun i hi => by omega, fun i hi => by omega⟩
    · obtain ⟨T, hT⟩ := Go.Deep.choose_lt each
      obtain ⟨b, off, spot⟩ := x
      have hspot : spot = none := by
        have h5 := (World.cells?_some (hT 0 hpos)).2.2 0 (by omega)
        exact World.cell?_spot (a := ⟨b, off, spot⟩) (by simpa [Addr.add] using h5)
      subst hspot
      refine ⟨b, off, fun i => (T i).1, fun i => (T i).2.1, fun i => (T i).2.2.1, fun i => (T i).2.2.2.1, fun i => (T i).2.2.2.2, fun i hi wx => ix23 b off len2 cap2 i hi wx, fun i hi => ?_⟩
      intro j v hv
      have hj : j < 5 := by have := (List.getElem?_eq_some_iff.1 hv).1; simpa using this
      have h5 := (World.cells?_some (hT i hi)).2.2 j hj
      rw [Addr.add_mid, Addr.add_mid] at h5
      rw [h5, hv]
end Go.Proofs.Ybulkeeoi
